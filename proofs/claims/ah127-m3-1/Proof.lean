import JvmDerived
import JvmDerived.Pilot.@@N@@Statement
import JvmDerived.Pilot.@@N@@Code
set_option linter.unusedVariables false
set_option linter.unusedSimpArgs false
/- laws to paste: Road.lenW, Road.codOf, lo8_inj, pair_says, chr8_lo8 (cut by pick.py; bodies as the Statement names them) -/
namespace Jvm.Pilot.@@N@@
namespace StrChars
open Jvm Sem ClassFile Op Lib Jvm.Stand Jvm.Free.XT Jvm.Free.ALB Jvm.Free.JM Jvm.Free
open Jvm.Lib.Cold (StaticIs)
/-- a char array whose places are chars -/
def Ch (a : Addr) (A : Cell) (U : State) : Prop := Arr .char a A U ∧ Typed .char A
theorem Ch.mv {a : Addr} {A : Cell} {U U' : State} (h : Ch a A U) (hal : U.vm.Alike U'.vm) (hh : U'.heap = U.heap) : Ch a A U' := ⟨h.1.mv hal hh, h.2⟩
theorem Ch.keep {a : Addr} {A : Cell} {U U' : State} (h : Ch a A U) (hal : U.vm.Alike U'.vm) (hk : U'.heap[a]? = some A) : Ch a A U' := ⟨h.1.keep hal hk, h.2⟩
/-- what place i of a char[]'s cell holds -/
def cv (A : Cell) (i : Nat) : Int32 := match A.slots[i]? with | some (.int x) => x | _ => 0
theorem Ch.get {a : Addr} {A : Cell} {U : State} (h : Ch a A U) {i : Nat} (hi : i < A.slots.size) : A.slots[i]? = some (.int (cv A i)) := by
  have e := Array.getElem?_eq_getElem hi
  have f := h.2 i _ e
  unfold cv; rw [e]
  generalize A.slots[i] = v at f
  cases v <;> simp [fits] at f ⊢
/-- the byte that i2b leaves of a char -/
def lo8 (x : Int32) : Int32 := x.toInt8.toInt32
theorem fits_lo8 (y : Int32) : fits .byte (.int (lo8 y)) = true := by
  have h1 := y.toInt8.le_toInt
  have h2 := y.toInt8.toInt_lt
  simp only [lo8, fits, Bool.and_eq_true, decide_eq_true_eq, Int32.le_iff_toInt_le, Int8.toInt_toInt32, show (-128 : Int32).toInt = -128 from by decide, show (127 : Int32).toInt = 127 from by decide]
  omega
/-- A' is A but that each place j of lo .. hi - 1 holds f j -/
def Laid (A A' : Cell) (lo hi : Nat) (f : Nat → Value) : Prop := A'.cls = A.cls ∧ A'.vm = A.vm ∧ A'.slots.size = A.slots.size ∧ ∀ i, A'.slots[i]? = if lo ≤ i ∧ i < hi then some (f i) else A.slots[i]?
theorem Laid.zero (A : Cell) (lo : Nat) (f : Nat → Value) : Laid A A lo (lo + 0) f := ⟨rfl, rfl, rfl, fun i => by rw [if_neg (by omega)]⟩
theorem Laid.step {A Ak : Cell} {lo k : Nat} {f : Nat → Value} {v : Value} (h : Laid A Ak lo k f) (hlo : lo ≤ k) (hk : k < Ak.slots.size) (hv : v = f k) : Laid A (Ak.setSlot k v) lo (k + 1) f := by
  refine ⟨h.1, h.2.1, by simpa [Cell.setSlot] using h.2.2.1, fun i => ?_⟩
  by_cases e : k = i
  · subst e; rw [Cell.slots_setSlot_self v hk, if_pos (by omega), hv]
  · rw [Cell.slots_setSlot_ne v e, h.2.2.2 i]
    by_cases q : lo ≤ i ∧ i < k
    · rw [if_pos q, if_pos (by omega)]
    · rw [if_neg q, if_neg (by omega)]
def U16 : String := "java/lang/StringUTF16"
namespace Cmp5
def yN : MethodName := ⟨"java/lang/StringUTF16", "compress", "([CI[BII)I"⟩
abbrev yB : ByteArray := jdk_52_method_21_code
theorem d0 : decode yB 0 = .ok (.iconst 0, 1) := by decide +kernel
theorem d1 : decode yB 1 = .ok (.istore 5, 2) := by decide +kernel
theorem d3 : decode yB 3 = .ok (.iload 5, 2) := by decide +kernel
theorem d5 : decode yB 5 = .ok (.iload 4, 2) := by decide +kernel
theorem d7 : decode yB 7 = .ok (.if_icmp (.ge) 37, 3) := by decide +kernel
theorem d10 : decode yB 10 = .ok (.aload_n 0, 1) := by decide +kernel
theorem d11 : decode yB 11 = .ok (.iload_n 1, 1) := by decide +kernel
theorem d12 : decode yB 12 = .ok (.caload, 1) := by decide +kernel
theorem d13 : decode yB 13 = .ok (.istore 6, 2) := by decide +kernel
theorem d15 : decode yB 15 = .ok (.iload 6, 2) := by decide +kernel
theorem d17 : decode yB 17 = .ok (.sipush 255, 3) := by decide +kernel
theorem d20 : decode yB 20 = .ok (.if_icmp (.le) 6, 3) := by decide +kernel
theorem d26 : decode yB 26 = .ok (.aload_n 2, 1) := by decide +kernel
theorem d27 : decode yB 27 = .ok (.iload_n 3, 1) := by decide +kernel
theorem d28 : decode yB 28 = .ok (.iload 6, 2) := by decide +kernel
theorem d30 : decode yB 30 = .ok (.i2b, 1) := by decide +kernel
theorem d31 : decode yB 31 = .ok (.bastore, 1) := by decide +kernel
theorem d32 : decode yB 32 = .ok (.iinc 1 1, 3) := by decide +kernel
theorem d35 : decode yB 35 = .ok (.iinc 3 1, 3) := by decide +kernel
theorem d38 : decode yB 38 = .ok (.iinc 5 1, 3) := by decide +kernel
theorem d41 : decode yB 41 = .ok (.goto (-38), 3) := by decide +kernel
theorem d44 : decode yB 44 = .ok (.iload 4, 2) := by decide +kernel
theorem d46 : decode yB 46 = .ok (.ireturn, 1) := by decide +kernel
def site : List Cond := []
def tab : Cond := tabOf yN yB 7 (some .int) site
def P (b : Addr) (A : Cell) (d : Addr) (B : Cell) (o q len : Nat) (args : Array Value) (s : State) : Prop := args = #[.ref b, .int (Int32.ofNat o), .ref d, .int (Int32.ofNat q), .int (Int32.ofNat len)] ∧ Ch b A s ∧ Arr .byte d B s ∧ b ≠ d ∧ o + len ≤ A.slots.size ∧ q + len ≤ B.slots.size ∧ ∀ i, i < len → ¬ 255 < cv A (o + i)
def E (b : Addr) (A : Cell) (d : Addr) (B : Cell) (o q len : Nat) (r : Option Value) (s u : State) : Prop := r = some (.int (Int32.ofNat len)) ∧ ∃ B', Put d B' s u ∧ Laid B B' q (q + len) (fun j => Value.int (lo8 (cv A (o + (j - q)))))
/-- no char of the range above 255: len; the places written hold each char's low byte -/
theorem law (l : Launch) (b : Addr) (A : Cell) (d : Addr) (B : Cell) (o q len : Nat) : Law l yN 5 5 0 0 yB 7 (some .int) site (P b A d B o q len) (E b A d B o q len) (copyLocs d q len) 0 0 := by
  refine Law.of_walk (plainFor_of_name (by decide +kernel)) (by decide +kernel) (by decide +kernel) (by decide) (fun _ _ h => by rw [h.1]; rfl) (fun _ U U' hal hh h => ⟨h.1, h.2.1.mv hal hh, h.2.2.1.mv hal hh, h.2.2.2⟩) (fun r U U' V V' h1 hal h2 h => ⟨h.1, h.2.elim fun B' q => ⟨B', q.1.mv h1 h2, q.2⟩⟩) ?_
  intro p e s m args below meth c s₁ X0 hexec hbytes hml hret hlk hnm hown hh0 W hP
  obtain ⟨rfl, hA, hB, hne, l1, l2, hp⟩ := hP
  have c1 : Steps p.tables e below (s₁.setTop (entryFrame m #[.ref b, .int (Int32.ofNat o), .ref d, .int (Int32.ofNat q), .int (Int32.ofNat len)] 7)) (s₁.setTop (mkF m 0 #[.val (.ref b), .val (.int (Int32.ofNat o)), .val (.ref d), .val (.int (Int32.ofNat q)), .val (.int (Int32.ofNat len)), .unset, .unset] [])) := entry rfl
  have hA0 := hA.1.mv X0.warmed.alike hh0
  have hB0 := hB.mv X0.warmed.alike hh0
  have a31 := hA.1.2.2.2
  have c2 : Steps p.tables e below (s₁.setTop (entryFrame m #[.ref b, .int (Int32.ofNat o), .ref d, .int (Int32.ofNat q), .int (Int32.ofNat len)] 7)) (s₁.setTop (mkF m 3 #[.val (.ref b), .val (.int (Int32.ofNat o)), .val (.ref d), .val (.int (Int32.ofNat q)), .val (.int (Int32.ofNat len)), .val (.int 0), .unset] [])) := c1.trans (by
    refine iconstV X0.here hexec rfl 0 (hb hbytes d0) (by decide) ?_
    refine XS.istore X0.here hexec rfl (hb hbytes d1) rfl rfl ?_
    exact Steps.refl _)
  have loop : ∀ (r i : Nat), i + r = len → ∀ (z : Slot), (z = .unset ∨ ∃ w, z = .val w ∧ w.category = 1) → ∀ (Tl : State) (Bk : Cell), Stand p l e { frames := 0, locals := 0, cells := 0, slots := 0 } s m #[.ref b, .int (Int32.ofNat o), .ref d, .int (Int32.ofNat q), .int (Int32.ofNat len)] below meth c Tl ([] ++ copyLocs d q i) 0 0 → Put d Bk s₁ Tl → Laid B Bk q (q + i) (fun j => Value.int (lo8 (cv A (o + (j - q))))) →
      Steps p.tables e below (s₁.setTop (entryFrame m #[.ref b, .int (Int32.ofNat o), .ref d, .int (Int32.ofNat q), .int (Int32.ofNat len)] 7)) (Tl.setTop (mkF m 3 #[.val (.ref b), .val (.int (Int32.ofNat (o + i))), .val (.ref d), .val (.int (Int32.ofNat (q + i))), .val (.int (Int32.ofNat len)), .val (.int (Int32.ofNat i)), z] [])) → ∃ (T' : State) (B' : Cell) (z' : Slot), Stand p l e { frames := 0, locals := 0, cells := 0, slots := 0 } s m #[.ref b, .int (Int32.ofNat o), .ref d, .int (Int32.ofNat q), .int (Int32.ofNat len)] below meth c T' ([] ++ copyLocs d q len) 0 0 ∧ Put d B' s₁ T' ∧ Laid B B' q (q + len) (fun j => Value.int (lo8 (cv A (o + (j - q))))) ∧
      Steps p.tables e below (s₁.setTop (entryFrame m #[.ref b, .int (Int32.ofNat o), .ref d, .int (Int32.ofNat q), .int (Int32.ofNat len)] 7)) (T'.setTop (mkF m 3 #[.val (.ref b), .val (.int (Int32.ofNat (o + len))), .val (.ref d), .val (.int (Int32.ofNat (q + len))), .val (.int (Int32.ofNat len)), .val (.int (Int32.ofNat len)), z'] [])) := by
    intro r
    induction r with
    | zero =>
      intro i hi z hz Tl Bk Xl pl fl cl
      have hil : i = len := by omega
      rw [hil] at Xl fl cl
      exact ⟨Tl, Bk, z, Xl, pl, fl, cl⟩
    | succ r ih =>
      intro i hi z hz Tl Bk Xl pl fl cl
      have all := X0.warmed.alike.symm.trans Xl.warmed.alike
      have hAl := hA0.keep all (pl.other hne hA0.1)
      have hBk := hB0.like all pl.1 fl.1 fl.2.1 fl.2.2.1
      have hlt : q + i < Bk.slots.size := by rw [fl.2.2.1]; omega
      have c3 : Steps p.tables e below (s₁.setTop (entryFrame m #[.ref b, .int (Int32.ofNat o), .ref d, .int (Int32.ofNat q), .int (Int32.ofNat len)] 7)) (Tl.setTop (mkF m 12 #[.val (.ref b), .val (.int (Int32.ofNat (o + i))), .val (.ref d), .val (.int (Int32.ofNat (q + i))), .val (.int (Int32.ofNat len)), .val (.int (Int32.ofNat i)), z] [.int (Int32.ofNat (o + i)), .ref b])) := cl.trans (by
        refine XS.iload Xl.here hexec rfl (hb hbytes d3) rfl ?_
        refine XS.iload Xl.here hexec rfl (hb hbytes d5) rfl ?_
        refine XS.icmpNo Xl.here hexec rfl (hb hbytes d7) rfl (ii_ge_f (lt32 (by omega) (by omega))) ?_
        refine XS.aloadN Xl.here hexec rfl (hb hbytes d10) rfl rfl ?_
        refine XS.iloadN Xl.here hexec rfl (hb hbytes d11) rfl ?_
        exact Steps.refl _)
      have c4 : Steps p.tables e below (s₁.setTop (entryFrame m #[.ref b, .int (Int32.ofNat o), .ref d, .int (Int32.ofNat q), .int (Int32.ofNat len)] 7)) (Tl.setTop (mkF m 13 #[.val (.ref b), .val (.int (Int32.ofNat (o + i))), .val (.ref d), .val (.int (Int32.ofNat (q + i))), .val (.int (Int32.ofNat len)), .val (.int (Int32.ofNat i)), z] [.int (cv A (o + i))])) := c3.trans (by
        refine Xl.aget hexec hAl rfl (hA.get (i := o + i) (by omega)) rfl rfl (hb hbytes d12) ?_
        exact Steps.refl _)
      have c5 : Steps p.tables e below (s₁.setTop (entryFrame m #[.ref b, .int (Int32.ofNat o), .ref d, .int (Int32.ofNat q), .int (Int32.ofNat len)] 7)) (Tl.setTop (mkF m 15 #[.val (.ref b), .val (.int (Int32.ofNat (o + i))), .val (.ref d), .val (.int (Int32.ofNat (q + i))), .val (.int (Int32.ofNat len)), .val (.int (Int32.ofNat i)), .val (.int (cv A (o + i)))] [])) := c4.trans (by
        refine XS.istoreS Xl.here hexec rfl (hb hbytes d13) rfl rfl hz ?_
        exact Steps.refl _)
      have c6 : Steps p.tables e below (s₁.setTop (entryFrame m #[.ref b, .int (Int32.ofNat o), .ref d, .int (Int32.ofNat q), .int (Int32.ofNat len)] 7)) (Tl.setTop (mkF m 31 #[.val (.ref b), .val (.int (Int32.ofNat (o + i))), .val (.ref d), .val (.int (Int32.ofNat (q + i))), .val (.int (Int32.ofNat len)), .val (.int (Int32.ofNat i)), .val (.int (cv A (o + i)))] [.int (lo8 (cv A (o + i))), .int (Int32.ofNat (q + i)), .ref d])) := c5.trans (by
        refine XS.iload Xl.here hexec rfl (hb hbytes d15) rfl ?_
        refine sipushV Xl.here hexec rfl 255 (hb hbytes d17) (by decide) ?_
        refine XS.icmpYes Xl.here hexec rfl (pc0 := 20) rfl (hb hbytes d20) rfl (ii_le_t (hp i (by omega))) (by decide) rfl ?_
        refine XS.aloadN Xl.here hexec rfl (hb hbytes d26) rfl rfl ?_
        refine XS.iloadN Xl.here hexec rfl (hb hbytes d27) rfl ?_
        refine XS.iload Xl.here hexec rfl (hb hbytes d28) rfl ?_
        refine i2b Xl.here hexec rfl (hb hbytes d30) rfl ?_
        exact Steps.refl _)
      obtain ⟨T7, X7, p7, st7⟩ := Xl.aput hexec hBk rfl hlt rfl (fits_lo8 (cv A (o + i))) (g := (mkF m 31 #[.val (.ref b), .val (.int (Int32.ofNat (o + i))), .val (.ref d), .val (.int (Int32.ofNat (q + i))), .val (.int (Int32.ofNat len)), .val (.int (Int32.ofNat i)), .val (.int (cv A (o + i)))] [.int (lo8 (cv A (o + i))), .int (Int32.ofNat (q + i)), .ref d])) rfl (rest := []) rfl (hb hbytes d31)
      have c8 : Steps p.tables e below (s₁.setTop (entryFrame m #[.ref b, .int (Int32.ofNat o), .ref d, .int (Int32.ofNat q), .int (Int32.ofNat len)] 7)) (T7.setTop (mkF m 32 #[.val (.ref b), .val (.int (Int32.ofNat (o + i))), .val (.ref d), .val (.int (Int32.ofNat (q + i))), .val (.int (Int32.ofNat len)), .val (.int (Int32.ofNat i)), .val (.int (cv A (o + i)))] [])) := c6.trans (st7 _ (Steps.refl _))
      have c9 : Steps p.tables e below (s₁.setTop (entryFrame m #[.ref b, .int (Int32.ofNat o), .ref d, .int (Int32.ofNat q), .int (Int32.ofNat len)] 7)) (T7.setTop (mkF m 3 #[.val (.ref b), .val (.int (Int32.ofNat (o + i) + 1)), .val (.ref d), .val (.int (Int32.ofNat (q + i) + 1)), .val (.int (Int32.ofNat len)), .val (.int (Int32.ofNat i + 1)), .val (.int (cv A (o + i)))] [])) := c8.trans (by
        refine iincV X7.here hexec rfl 1 (hb hbytes d32) (by decide) rfl rfl ?_
        refine iincV X7.here hexec rfl 1 (hb hbytes d35) (by decide) rfl rfl ?_
        refine iincV X7.here hexec rfl 1 (hb hbytes d38) (by decide) rfl rfl ?_
        refine XS.goto X7.here hexec rfl (pc0 := 41) rfl (hb hbytes d41) (by decide) rfl ?_
        exact Steps.refl _)
      have c10 : Steps p.tables e below (s₁.setTop (entryFrame m #[.ref b, .int (Int32.ofNat o), .ref d, .int (Int32.ofNat q), .int (Int32.ofNat len)] 7)) (T7.setTop (mkF m 3 #[.val (.ref b), .val (.int (Int32.ofNat (o + (i + 1)))), .val (.ref d), .val (.int (Int32.ofNat (q + (i + 1)))), .val (.int (Int32.ofNat len)), .val (.int (Int32.ofNat (i + 1))), .val (.int (cv A (o + i)))] [])) := by
        have := c9
        rw [succ32, succ32, succ32] at this
        exact this
      exact ih (i + 1) (by omega) _ (Or.inr ⟨_, rfl, rfl⟩) T7 _ (by rw [copyLocs_step, ← List.append_assoc]; exact X7) (pl.trans p7) (fl.step (by omega) hlt (by simp)) c10
  obtain ⟨T9, B9, z9, X9, p9, f9, g9⟩ := loop len 0 (by omega) .unset (Or.inl rfl) s₁ B (by simpa [copyLocs] using X0) ⟨hB0.1, fun _ _ => rfl, rfl⟩ (Laid.zero _ _ _) c2
  have c11 : Steps p.tables e below (s₁.setTop (entryFrame m #[.ref b, .int (Int32.ofNat o), .ref d, .int (Int32.ofNat q), .int (Int32.ofNat len)] 7)) (T9.setTop (mkF m 46 #[.val (.ref b), .val (.int (Int32.ofNat (o + len))), .val (.ref d), .val (.int (Int32.ofNat (q + len))), .val (.int (Int32.ofNat len)), .val (.int (Int32.ofNat len)), z9] [.int (Int32.ofNat len)])) := g9.trans (by
    refine XS.iload X9.here hexec rfl (hb hbytes d3) rfl ?_
    refine XS.iload X9.here hexec rfl (hb hbytes d5) rfl ?_
    refine XS.icmpYes X9.here hexec rfl (pc0 := 7) rfl (hb hbytes d7) rfl (ii_ge_t (nlt32 (by omega) (Nat.le_refl _))) (by decide) rfl ?_
    refine XS.iload X9.here hexec rfl (hb hbytes d44) rfl ?_
    exact Steps.refl _)
  exact ⟨T9, some (.int (Int32.ofNat len)), _, _, _, X9, by simp, rfl, rfl, (fun h => by cases h), ⟨rfl, B9, p9.from hh0, f9⟩, fun fs hl => c11.trans (X9.ireturnOut hexec hret rfl (Or.inl rfl) (hb hbytes d46) hl)⟩
end Cmp5
namespace Cmp3
def yN : MethodName := ⟨"java/lang/StringUTF16", "compress", "([CII)[B"⟩
abbrev yB : ByteArray := jdk_52_method_16_code
theorem d0 : decode yB 0 = .ok (.iload_n 2, 1) := by decide +kernel
theorem d1 : decode yB 1 = .ok (.newarray .byte, 2) := by decide +kernel
theorem d3 : decode yB 3 = .ok (.astore_n 3, 1) := by decide +kernel
theorem d4 : decode yB 4 = .ok (.aload_n 0, 1) := by decide +kernel
theorem d5 : decode yB 5 = .ok (.iload_n 1, 1) := by decide +kernel
theorem d6 : decode yB 6 = .ok (.aload_n 3, 1) := by decide +kernel
theorem d7 : decode yB 7 = .ok (.iconst 0, 1) := by decide +kernel
theorem d8 : decode yB 8 = .ok (.iload_n 2, 1) := by decide +kernel
theorem d9 : decode yB 9 = .ok (.invokestatic 115, 3) := by decide +kernel
theorem d12 : decode yB 12 = .ok (.istore 4, 2) := by decide +kernel
theorem d14 : decode yB 14 = .ok (.iload 4, 2) := by decide +kernel
theorem d16 : decode yB 16 = .ok (.iload_n 2, 1) := by decide +kernel
theorem d17 : decode yB 17 = .ok (.if_icmp (.eq) 40, 3) := by decide +kernel
theorem d57 : decode yB 57 = .ok (.aload_n 3, 1) := by decide +kernel
theorem d58 : decode yB 58 = .ok (.areturn, 1) := by decide +kernel
def site : List Cond := [.arrayClass .byte, Cmp5.tab] ++ staticW U16 115 Cmp5.yN
def tab : Cond := tabOf yN yB 6 (some (.array .byte)) site
def P (b : Addr) (A : Cell) (o len : Nat) (args : Array Value) (s : State) : Prop := args = #[.ref b, .int (Int32.ofNat o), .int (Int32.ofNat len)] ∧ Ch b A s ∧ o + len ≤ A.slots.size ∧ len ≤ 536870912 ∧ ∀ i, i < len → ¬ 255 < cv A (o + i)
def E (b : Addr) (A : Cell) (o len : Nat) (r : Option Value) (s u : State) : Prop := NewArr .byte "[B" len (fun j => .int (lo8 (cv A (o + j)))) r s u ∧ u.heap.size = s.heap.size + 1
/-- no char of the range above 255: a new byte[] of their low bytes -/
theorem law (l : Launch) (b : Addr) (A : Cell) (o len : Nat) : Law l yN 3 3 1 18 yB 6 (some (.array .byte)) site (P b A o len) (E b A o len) [] 1 len := by
  refine Law.of_walk (plainFor_of_name (by decide +kernel)) (by decide +kernel) (by decide +kernel) (by decide) (fun _ _ h => by rw [h.1]; rfl) (fun _ U U' hal hh h => ⟨h.1, h.2.1.mv hal hh, h.2.2⟩) (fun r U U' V V' h1 hal h2 h => ⟨NewArr.mv r U U' V V' h1 hal h2 h.1, by rw [h1, h2]; exact h.2⟩) ?_
  intro p e s m args below meth c s₁ X0 hexec hbytes hml hret hlk hnm hown hh0 W hP
  obtain ⟨rfl, hA, l1, l2, hp⟩ := hP
  have a31 := hA.1.2.2.2
  have c1 : Steps p.tables e below (s₁.setTop (entryFrame m #[.ref b, .int (Int32.ofNat o), .int (Int32.ofNat len)] 6)) (s₁.setTop (mkF m 0 #[.val (.ref b), .val (.int (Int32.ofNat o)), .val (.int (Int32.ofNat len)), .unset, .unset, .unset] [])) := entry rfl
  have c2 : Steps p.tables e below (s₁.setTop (entryFrame m #[.ref b, .int (Int32.ofNat o), .int (Int32.ofNat len)] 6)) (s₁.setTop (mkF m 1 #[.val (.ref b), .val (.int (Int32.ofNat o)), .val (.int (Int32.ofNat len)), .unset, .unset, .unset] [.int (Int32.ofNat len)])) := c1.trans (by
    refine XS.iloadN X0.here hexec rfl (hb hbytes d0) rfl ?_
    exact Steps.refl _)
  obtain ⟨T3, B3, X3, ba3, bs3, bv3, bh3, bf3, st3⟩ := X0.anew hexec (atype := .byte) (wk W (.arrayClass .byte)) rfl (by show len * 1 ≤ _; omega) (by omega) (g := (mkF m 1 #[.val (.ref b), .val (.int (Int32.ofNat o)), .val (.int (Int32.ofNat len)), .unset, .unset, .unset] [.int (Int32.ofNat len)])) rfl (hb hbytes d1) (rest := []) rfl (Nat.le_refl _) (by show 0 + len ≤ len; omega)
  rw [hh0] at ba3 st3
  have kp3 : XT.Kept s T3 := (XT.Kept.of_eq hh0).push bh3
  have hA3 := hA.keep X3.warmed.alike (kp3 _ _ hA.1.1)
  have hne : b ≠ s.heap.size := hA.1.ne
  have c4 : Steps p.tables e below (s₁.setTop (entryFrame m #[.ref b, .int (Int32.ofNat o), .int (Int32.ofNat len)] 6)) (T3.setTop (mkF m 3 #[.val (.ref b), .val (.int (Int32.ofNat o)), .val (.int (Int32.ofNat len)), .unset, .unset, .unset] [.ref s.heap.size])) := c2.trans (st3 _ (Steps.refl _))
  have c5 : Steps p.tables e below (s₁.setTop (entryFrame m #[.ref b, .int (Int32.ofNat o), .int (Int32.ofNat len)] 6)) (T3.setTop (mkF m 9 #[.val (.ref b), .val (.int (Int32.ofNat o)), .val (.int (Int32.ofNat len)), .val (.ref s.heap.size), .unset, .unset] [.int (Int32.ofNat len), .int 0, .ref s.heap.size, .int (Int32.ofNat o), .ref b])) := c4.trans (by
    refine XS.astoreN X3.here hexec rfl (hb hbytes d3) rfl rfl rfl ?_
    refine XS.aloadN X3.here hexec rfl (hb hbytes d4) rfl rfl ?_
    refine XS.iloadN X3.here hexec rfl (hb hbytes d5) rfl ?_
    refine XS.aloadN X3.here hexec rfl (hb hbytes d6) rfl rfl ?_
    refine iconstV X3.here hexec rfl 0 (hb hbytes d7) (by decide) ?_
    refine XS.iloadN X3.here hexec rfl (hb hbytes d8) rfl ?_
    exact Steps.refl _)
  obtain ⟨v6, T6, X6, E6, g6⟩ := X3.callS hexec (Cmp5.law l b A s.heap.size B3 o 0 len) hown (wks W (staticW U16 115 Cmp5.yN)) (wk W Cmp5.tab) (W := 0) (Nat.le_of_ble_eq_true rfl) (Nat.le_of_ble_eq_true rfl) (Nat.le_refl _) (by show 0 + len + 0 ≤ len; omega) (g := (mkF m 9 #[.val (.ref b), .val (.int (Int32.ofNat o)), .val (.int (Int32.ofNat len)), .val (.ref s.heap.size), .unset, .unset] [.int (Int32.ofNat len), .int (Int32.ofNat 0), .ref s.heap.size, .int (Int32.ofNat o), .ref b])) rfl (by rw [hml]; rfl) c5 (argsL := [.ref b, .int (Int32.ofNat o), .ref s.heap.size, .int (Int32.ofNat 0), .int (Int32.ofNat len)]) (rest := []) rfl rfl (by show 2 * 0 + 0 ≤ _; decide) (hb hbytes d9) (⟨rfl, hA3, ba3, hne, l1, by rw [bs3]; simp, hp⟩)
  obtain ⟨rfl, B6, p6, f6⟩ := E6
  have c7 : Steps p.tables e below (s₁.setTop (entryFrame m #[.ref b, .int (Int32.ofNat o), .int (Int32.ofNat len)] 6)) (T6.setTop (mkF m 12 #[.val (.ref b), .val (.int (Int32.ofNat o)), .val (.int (Int32.ofNat len)), .val (.ref s.heap.size), .unset, .unset] [.int (Int32.ofNat len)])) := g6
  have c8 : Steps p.tables e below (s₁.setTop (entryFrame m #[.ref b, .int (Int32.ofNat o), .int (Int32.ofNat len)] 6)) (T6.setTop (mkF m 58 #[.val (.ref b), .val (.int (Int32.ofNat o)), .val (.int (Int32.ofNat len)), .val (.ref s.heap.size), .val (.int (Int32.ofNat len)), .unset] [.ref s.heap.size])) := c7.trans (by
    refine XS.istore X6.here hexec rfl (hb hbytes d12) rfl rfl ?_
    refine XS.iload X6.here hexec rfl (hb hbytes d14) rfl ?_
    refine XS.iloadN X6.here hexec rfl (hb hbytes d16) rfl ?_
    refine XS.icmpYes X6.here hexec rfl (pc0 := 17) rfl (hb hbytes d17) rfl (ii_eq_t rfl) (by decide) rfl ?_
    refine XS.aloadN X6.here hexec rfl (hb hbytes d57) rfl rfl ?_
    exact Steps.refl _)
  have X8 := X6.wide (L' := []) (cells' := 1) (slots' := len) (fun x hx hlt => by
    simp only [List.nil_append, copyLocs, List.mem_map, List.mem_range] at hx
    obtain ⟨i, -, rfl⟩ := hx
    exact absurd hlt (Nat.lt_irrefl _)) (Nat.le_refl _) (by omega)
  exact ⟨T6, some (.ref s.heap.size), _, _, _, X8, rfl, rfl, rfl, (fun h => by cases h), ⟨⟨rfl, B6, ba3.like (X3.warmed.alike.symm.trans X6.warmed.alike) p6.1 f6.1 f6.2.1 f6.2.2.1, f6.2.1.trans bv3, by rw [X6.warmed.alike.findClass, f6.1]; exact bf3, by rw [f6.2.2.1, bs3]; simp, fun j hj => by rw [f6.2.2.2 j, if_pos (by omega)]; rfl, kp3.put p6 (Nat.le_refl _)⟩, by rw [p6.2.2, bh3, hh0]; simp⟩, fun fs hl => c8.trans (X8.areturnOut hexec rfl hret rfl (hb hbytes d58) hl)⟩
end Cmp3
namespace CodL
def yN : MethodName := ⟨"java/lang/StringUTF16", "coderFromArrayLen", "([BI)B"⟩
abbrev yB : ByteArray := jdk_52_method_15_code
theorem d0 : decode yB 0 = .ok (.iload_n 1, 1) := by decide +kernel
theorem d1 : decode yB 1 = .ok (.aload_n 0, 1) := by decide +kernel
theorem d2 : decode yB 2 = .ok (.arraylength, 1) := by decide +kernel
theorem d3 : decode yB 3 = .ok (.isub, 1) := by decide +kernel
theorem d4 : decode yB 4 = .ok (.bipush 31, 2) := by decide +kernel
theorem d6 : decode yB 6 = .ok (.iushr, 1) := by decide +kernel
theorem d7 : decode yB 7 = .ok (.i2b, 1) := by decide +kernel
theorem d8 : decode yB 8 = .ok (.ireturn, 1) := by decide +kernel
def site : List Cond := []
def tab : Cond := tabOf yN yB 2 (some .byte) site
def P (d : Addr) (B : Cell) (args : Array Value) (s : State) : Prop := args = #[.ref d, .int (Int32.ofNat B.slots.size)] ∧ Arr .byte d B s
def E (r : Option Value) (s u : State) : Prop := XT.PureE (some (.int 0)) r s u
/-- an array as long as the number of chars: LATIN1 -/
theorem law (l : Launch) (d : Addr) (B : Cell) : Law l yN 2 2 0 0 yB 2 (some .byte) site (P d B) E [] 0 0 := by
  refine Law.of_walk (plainFor_of_name (by decide +kernel)) (by decide +kernel) (by decide +kernel) (by decide) (fun _ _ h => by rw [h.1]; rfl) (fun _ U U' hal hh h => ⟨h.1, h.2.mv hal hh⟩) (fun r U U' V V' h1 hal h2 h => XT.PureE.mv r U U' V V' h1 hal h2 h) ?_
  intro p e s m args below meth c s₁ X0 hexec hbytes hml hret hlk hnm hown hh0 W hP
  obtain ⟨rfl, hB⟩ := hP
  have hB0 := hB.mv X0.warmed.alike hh0
  have c1 : Steps p.tables e below (s₁.setTop (entryFrame m #[.ref d, .int (Int32.ofNat B.slots.size)] 2)) (s₁.setTop (mkF m 0 #[.val (.ref d), .val (.int (Int32.ofNat B.slots.size))] [])) := entry rfl
  have c2 : Steps p.tables e below (s₁.setTop (entryFrame m #[.ref d, .int (Int32.ofNat B.slots.size)] 2)) (s₁.setTop (mkF m 2 #[.val (.ref d), .val (.int (Int32.ofNat B.slots.size))] [.ref d, .int (Int32.ofNat B.slots.size)])) := c1.trans (by
    refine XS.iloadN X0.here hexec rfl (hb hbytes d0) rfl ?_
    refine XS.aloadN X0.here hexec rfl (hb hbytes d1) rfl rfl ?_
    exact Steps.refl _)
  have c3 : Steps p.tables e below (s₁.setTop (entryFrame m #[.ref d, .int (Int32.ofNat B.slots.size)] 2)) (s₁.setTop (mkF m 8 #[.val (.ref d), .val (.int (Int32.ofNat B.slots.size))] [.int (lo8 (ushr (Int32.ofNat B.slots.size - Int32.ofNat B.slots.size) 31))])) := c2.trans (by
    refine X0.alen hexec hB0 rfl rfl (hb hbytes d2) ?_
    refine XS.isub X0.here hexec rfl (hb hbytes d3) rfl ?_
    refine bipushV X0.here hexec rfl 31 (hb hbytes d4) (by decide) ?_
    refine iushr X0.here hexec rfl (hb hbytes d6) rfl ?_
    refine i2b X0.here hexec rfl (hb hbytes d7) rfl ?_
    exact Steps.refl _)
  have e0 : lo8 (ushr (Int32.ofNat B.slots.size - Int32.ofNat B.slots.size) 31) = 0 := by rw [Int32.sub_self]; decide
  rw [e0] at c3
  exact ⟨s₁, some (.int 0), _, _, _, X0, rfl, rfl, rfl, (fun h => by cases h), ⟨rfl, hh0⟩, fun fs hl => c3.trans (X0.ireturnOut hexec hret rfl (Or.inr (Or.inr (Or.inl rfl))) (hb hbytes d8) hl)⟩
end CodL
/-- the String at a is Latin-1 over a new byte[] (the heap's one new cell): the low bytes of the len chars of A from o on; every cell but a is kept -/
def Got (a : Addr) (D : Cell) (fV fC : Field) (A : Cell) (o len : Nat) (r : Option Value) (s u : State) : Prop := r = none ∧ ∃ D' V : Cell, Blank "java/lang/String" a D' u ∧ Same D D' [fV.slot, fC.slot] ∧ D'.slots[fV.slot]? = some (.ref s.heap.size) ∧ D'.slots[fC.slot]? = some (.int 0) ∧ Arr .byte s.heap.size V u ∧ V.vm = .none ∧ u.vm.findClass "[B" = some V.cls ∧ V.slots.size = len ∧ (∀ j, j < len → V.slots[j]? = some (.int (lo8 (cv A (o + j))))) ∧ (∀ (y : Addr) (c : Cell), y ≠ a → s.heap[y]? = some c → u.heap[y]? = some c) ∧ u.heap.size = s.heap.size + 1
theorem Got.mv {a : Addr} {D A : Cell} {fV fC : Field} {o len : Nat} : ∀ r (U U' V V' : State), U'.heap = U.heap → V.vm.Alike V'.vm → V'.heap = V.heap → Got a D fV fC A o len r U V → Got a D fV fC A o len r U' V' :=
  fun r U U' V V' h1 hal h2 ⟨e0, D', X, a1, a2, a3, a4, a5, a6, a7, a8, a9, a10, a11⟩ => ⟨e0, D', X, a1.mv hal h2, a2, by rw [h1]; exact a3, a4, by rw [h1]; exact a5.mv hal h2, a6, by rw [hal.findClass]; exact a7, a8, a9, by rw [h1, h2]; exact a10, by rw [h1, h2]; exact a11⟩
namespace New4
def yN : MethodName := ⟨"java/lang/String", "<init>", "([CIILjava/lang/Void;)V"⟩
abbrev yB : ByteArray := jdk_42_method_149_code
theorem d0 : decode yB 0 = .ok (.aload_n 0, 1) := by decide +kernel
theorem d1 : decode yB 1 = .ok (.invokespecial 1, 3) := by decide +kernel
theorem d4 : decode yB 4 = .ok (.iload_n 3, 1) := by decide +kernel
theorem d5 : decode yB 5 = .ok (.ifCond (.ne) 22, 3) := by decide +kernel
theorem d27 : decode yB 27 = .ok (.getstatic 38, 3) := by decide +kernel
theorem d30 : decode yB 30 = .ok (.ifCond (.eq) 28, 3) := by decide +kernel
theorem d33 : decode yB 33 = .ok (.aload_n 1, 1) := by decide +kernel
theorem d34 : decode yB 34 = .ok (.iload_n 2, 1) := by decide +kernel
theorem d35 : decode yB 35 = .ok (.iload_n 3, 1) := by decide +kernel
theorem d36 : decode yB 36 = .ok (.invokestatic 177, 3) := by decide +kernel
theorem d39 : decode yB 39 = .ok (.astore 5, 2) := by decide +kernel
theorem d41 : decode yB 41 = .ok (.aload_n 0, 1) := by decide +kernel
theorem d42 : decode yB 42 = .ok (.aload 5, 2) := by decide +kernel
theorem d44 : decode yB 44 = .ok (.iload_n 3, 1) := by decide +kernel
theorem d45 : decode yB 45 = .ok (.invokestatic 47, 3) := by decide +kernel
theorem d48 : decode yB 48 = .ok (.putfield 15, 3) := by decide +kernel
theorem d51 : decode yB 51 = .ok (.aload_n 0, 1) := by decide +kernel
theorem d52 : decode yB 52 = .ok (.aload 5, 2) := by decide +kernel
theorem d54 : decode yB 54 = .ok (.putfield 9, 3) := by decide +kernel
theorem d57 : decode yB 57 = .ok (.return_, 1) := by decide +kernel
def site : List Cond := [.fieldLink "java/lang/String" 38 "java/lang/String" "COMPACT_STRINGS" "Z", Cmp3.tab, CodL.tab, .laysFinal "java/lang/String" "java/lang/String" "value" "[B", .fieldLink "java/lang/String" 9 "java/lang/String" "value" "[B", .laysFinal "java/lang/String" "java/lang/String" "coder" "B", .fieldLink "java/lang/String" 15 "java/lang/String" "coder" "B"] ++ objW "java/lang/String" 1 ++ staticW "java/lang/String" 177 Cmp3.yN ++ staticW "java/lang/String" 47 CodL.yN
def tab : Cond := tabOf yN yB 6 none site
def P (a : Addr) (D : Cell) (fV fC : Field) (b : Addr) (A : Cell) (z : Int32) (o len : Nat) (args : Array Value) (s : State) : Prop := args = #[.ref a, .ref b, .int (Int32.ofNat o), .int (Int32.ofNat len), .null] ∧ Blank "java/lang/String" a D s ∧ Found "java/lang/String" "value" "[B" fV s ∧ Found "java/lang/String" "coder" "B" fC s ∧ Ch b A s ∧ StaticIs s "java/lang/String" "COMPACT_STRINGS" "Z" (.int z) ∧ ¬ z = 0 ∧ 0 < len ∧ o + len ≤ A.slots.size ∧ len ≤ 536870912 ∧ ∀ i, i < len → ¬ 255 < cv A (o + i)
def E (a : Addr) (D : Cell) (fV fC : Field) (A : Cell) (o len : Nat) (r : Option Value) (s u : State) : Prop := Got a D fV fC A o len r s u
/-- len > 0, no char of the range above 255: a Latin-1 String of their low bytes -/
theorem law (l : Launch) (a : Addr) (D : Cell) (fV fC : Field) (b : Addr) (A : Cell) (z : Int32) (o len : Nat) : Law l yN 5 4 2 35 yB 6 none site (P a D fV fC b A z o len) (E a D fV fC A o len) [⟨a, fC.slot⟩, ⟨a, fV.slot⟩] 1 len := by
  refine Law.of_walk (plainFor_of_name (by decide +kernel)) (by decide +kernel) (by decide +kernel) (by decide) (fun _ _ h => by rw [h.1]; rfl) (fun _ U U' hal hh h => ⟨h.1, h.2.1.mv hal hh, h.2.2.1.al hal, h.2.2.2.1.al hal, h.2.2.2.2.1.mv hal hh, h.2.2.2.2.2.1.there hal hh, h.2.2.2.2.2.2⟩) (fun r U U' V V' h1 hal h2 h => Got.mv r U U' V V' h1 hal h2 h) ?_
  intro p e s m args below meth c s₁ X0 hexec hbytes hml hret hlk hnm hown hh0 W hP
  obtain ⟨rfl, hB, f1, f2, hA, s1, hz, l0, l1, l2, hp⟩ := hP
  have a31 := hA.1.2.2.2
  have c1 : Steps p.tables e below (s₁.setTop (entryFrame m #[.ref a, .ref b, .int (Int32.ofNat o), .int (Int32.ofNat len), .null] 6)) (s₁.setTop (mkF m 0 #[.val (.ref a), .val (.ref b), .val (.int (Int32.ofNat o)), .val (.int (Int32.ofNat len)), .val .null, .unset] [])) := entry rfl
  have c2 : Steps p.tables e below (s₁.setTop (entryFrame m #[.ref a, .ref b, .int (Int32.ofNat o), .int (Int32.ofNat len), .null] 6)) (s₁.setTop (mkF m 1 #[.val (.ref a), .val (.ref b), .val (.int (Int32.ofNat o)), .val (.int (Int32.ofNat len)), .val .null, .unset] [.ref a])) := c1.trans (by
    refine XS.aloadN X0.here hexec rfl (hb hbytes d0) rfl rfl ?_
    exact Steps.refl _)
  obtain ⟨T3, X3, q3, st3⟩ := X0.oinit hexec hown (wks W (objW "java/lang/String" 1)) (g := (mkF m 1 #[.val (.ref a), .val (.ref b), .val (.int (Int32.ofNat o)), .val (.int (Int32.ofNat len)), .val .null, .unset] [.ref a])) rfl (by rw [hml]; rfl) (rest := []) rfl (hb hbytes d1) (W := 0) (by show 2 * 0 + 0 ≤ _; decide) (Nat.le_of_ble_eq_true rfl) (Nat.le_of_ble_eq_true rfl)
  have hh3 := q3.trans hh0
  have c4 : Steps p.tables e below (s₁.setTop (entryFrame m #[.ref a, .ref b, .int (Int32.ofNat o), .int (Int32.ofNat len), .null] 6)) (T3.setTop (mkF m 27 #[.val (.ref a), .val (.ref b), .val (.int (Int32.ofNat o)), .val (.int (Int32.ofNat len)), .val .null, .unset] [])) := (c2.trans (st3 _ (Steps.refl _))).trans (by
    refine XS.iloadN X3.here hexec rfl (hb hbytes d4) rfl ?_
    refine XS.ifYes X3.here hexec rfl (pc0 := 5) rfl (hb hbytes d5) rfl (i0_ne_t (nz32 (by omega) l0)) (by decide) rfl ?_
    exact Steps.refl _)
  obtain ⟨T5, X5, q5, st5⟩ := X3.sget hexec hown (wk W (.fieldLink "java/lang/String" 38 "java/lang/String" "COMPACT_STRINGS" "Z")) s1 (fun _ _ h => by rw [hh3]; exact h) (g := (mkF m 27 #[.val (.ref a), .val (.ref b), .val (.int (Int32.ofNat o)), .val (.int (Int32.ofNat len)), .val .null, .unset] [])) rfl (hb hbytes d27)
  have hh5 := q5.trans hh3
  have c6 : Steps p.tables e below (s₁.setTop (entryFrame m #[.ref a, .ref b, .int (Int32.ofNat o), .int (Int32.ofNat len), .null] 6)) (T5.setTop (mkF m 30 #[.val (.ref a), .val (.ref b), .val (.int (Int32.ofNat o)), .val (.int (Int32.ofNat len)), .val .null, .unset] [.int z])) := c4.trans (st5 _ (Steps.refl _))
  have c7 : Steps p.tables e below (s₁.setTop (entryFrame m #[.ref a, .ref b, .int (Int32.ofNat o), .int (Int32.ofNat len), .null] 6)) (T5.setTop (mkF m 36 #[.val (.ref a), .val (.ref b), .val (.int (Int32.ofNat o)), .val (.int (Int32.ofNat len)), .val .null, .unset] [.int (Int32.ofNat len), .int (Int32.ofNat o), .ref b])) := c6.trans (by
    refine XS.ifNo X5.here hexec rfl (hb hbytes d30) rfl (i0_eq_f hz) ?_
    refine XS.aloadN X5.here hexec rfl (hb hbytes d33) rfl rfl ?_
    refine XS.iloadN X5.here hexec rfl (hb hbytes d34) rfl ?_
    refine XS.iloadN X5.here hexec rfl (hb hbytes d35) rfl ?_
    exact Steps.refl _)
  obtain ⟨v8, T8, X8, E8, g8⟩ := X5.callS hexec (Cmp3.law l b A o len) hown (wks W (staticW "java/lang/String" 177 Cmp3.yN)) (wk W Cmp3.tab) (W := 0) (Nat.le_of_ble_eq_true rfl) (Nat.le_of_ble_eq_true rfl) (Nat.le_refl _) (by show 0 + len ≤ len; omega) (g := (mkF m 36 #[.val (.ref a), .val (.ref b), .val (.int (Int32.ofNat o)), .val (.int (Int32.ofNat len)), .val .null, .unset] [.int (Int32.ofNat len), .int (Int32.ofNat o), .ref b])) rfl (by rw [hml]; rfl) c7 (argsL := [.ref b, .int (Int32.ofNat o), .int (Int32.ofNat len)]) (rest := []) rfl rfl (by show 2 * 0 + 0 ≤ _; decide) (hb hbytes d36) (⟨rfl, hA.mv X5.warmed.alike hh5, l1, l2, hp⟩)
  obtain ⟨e8, z8⟩ := E8
  obtain ⟨rfl, N, n1, n2, n3, n4, n5, n6⟩ := NewArr.mv _ T5 s _ _ hh5.symm (Vm.Alike.refl _) rfl e8
  rw [hh5] at z8
  have hB1 := hB.keep X8.warmed.alike (n6 _ _ hB.1)
  have hne : s.heap.size ≠ a := (Nat.ne_of_lt (Array.getElem?_eq_some_iff.mp hB.1).1).symm
  have c9 : Steps p.tables e below (s₁.setTop (entryFrame m #[.ref a, .ref b, .int (Int32.ofNat o), .int (Int32.ofNat len), .null] 6)) (T8.setTop (mkF m 39 #[.val (.ref a), .val (.ref b), .val (.int (Int32.ofNat o)), .val (.int (Int32.ofNat len)), .val .null, .unset] [.ref s.heap.size])) := g8
  have c10 : Steps p.tables e below (s₁.setTop (entryFrame m #[.ref a, .ref b, .int (Int32.ofNat o), .int (Int32.ofNat len), .null] 6)) (T8.setTop (mkF m 45 #[.val (.ref a), .val (.ref b), .val (.int (Int32.ofNat o)), .val (.int (Int32.ofNat len)), .val .null, .val (.ref s.heap.size)] [.int (Int32.ofNat N.slots.size), .ref s.heap.size, .ref a])) := by
    have hc : Steps p.tables e below (s₁.setTop (entryFrame m #[.ref a, .ref b, .int (Int32.ofNat o), .int (Int32.ofNat len), .null] 6)) (T8.setTop (mkF m 45 #[.val (.ref a), .val (.ref b), .val (.int (Int32.ofNat o)), .val (.int (Int32.ofNat len)), .val .null, .val (.ref s.heap.size)] [.int (Int32.ofNat len), .ref s.heap.size, .ref a])) := c9.trans (by
      refine XS.astore X8.here hexec rfl (hb hbytes d39) rfl rfl rfl ?_
      refine XS.aloadN X8.here hexec rfl (hb hbytes d41) rfl rfl ?_
      refine XS.aload X8.here hexec rfl (hb hbytes d42) rfl rfl ?_
      refine XS.iloadN X8.here hexec rfl (hb hbytes d44) rfl ?_
      exact Steps.refl _)
    rw [n4]; exact hc
  obtain ⟨v11, T11, X11, E11, g11⟩ := X8.callS hexec (CodL.law l s.heap.size N) hown (wks W (staticW "java/lang/String" 47 CodL.yN)) (wk W CodL.tab) (W := 1) (Nat.le_of_ble_eq_true rfl) (Nat.le_of_ble_eq_true rfl) (Nat.le_refl _) (by show 0 + len + 0 ≤ len; omega) (g := (mkF m 45 #[.val (.ref a), .val (.ref b), .val (.int (Int32.ofNat o)), .val (.int (Int32.ofNat len)), .val .null, .val (.ref s.heap.size)] [.int (Int32.ofNat N.slots.size), .ref s.heap.size, .ref a])) rfl (by rw [hml]; rfl) c10 (argsL := [.ref s.heap.size, .int (Int32.ofNat N.slots.size)]) (rest := [.ref a]) rfl rfl (by show 2 * 0 + (1 + 0) ≤ _; decide) (hb hbytes d45) (⟨rfl, n1⟩)
  obtain ⟨rfl, q11⟩ := E11
  have hB11 := hB1.mv (X8.warmed.alike.symm.trans X11.warmed.alike) q11
  have c12 : Steps p.tables e below (s₁.setTop (entryFrame m #[.ref a, .ref b, .int (Int32.ofNat o), .int (Int32.ofNat len), .null] 6)) (T11.setTop (mkF m 48 #[.val (.ref a), .val (.ref b), .val (.int (Int32.ofNat o)), .val (.int (Int32.ofNat len)), .val .null, .val (.ref s.heap.size)] [.int 0, .ref a])) := g11
  obtain ⟨T13, X13, p13, bl13, sl13, st13⟩ := X11.finit hexec hown (wk W (.fieldLink "java/lang/String" 15 "java/lang/String" "coder" "B")) (Or.inr ⟨_, (wk W (.laysFinal "java/lang/String" "java/lang/String" "coder" "B"))⟩) (Or.inl ⟨rfl, hnm⟩) f2 (Or.inl rfl) hB11 (t := .byte) (by decide +kernel) rfl (g := (mkF m 48 #[.val (.ref a), .val (.ref b), .val (.int (Int32.ofNat o)), .val (.int (Int32.ofNat len)), .val .null, .val (.ref s.heap.size)] [.int 0, .ref a])) rfl (rest := []) rfl (hb hbytes d48)
  have c14 : Steps p.tables e below (s₁.setTop (entryFrame m #[.ref a, .ref b, .int (Int32.ofNat o), .int (Int32.ofNat len), .null] 6)) (T13.setTop (mkF m 54 #[.val (.ref a), .val (.ref b), .val (.int (Int32.ofNat o)), .val (.int (Int32.ofNat len)), .val .null, .val (.ref s.heap.size)] [.ref s.heap.size, .ref a])) := (c12.trans (st13 _ (Steps.refl _))).trans (by
    refine XS.aloadN X13.here hexec rfl (hb hbytes d51) rfl rfl ?_
    refine XS.aload X13.here hexec rfl (hb hbytes d52) rfl rfl ?_
    exact Steps.refl _)
  obtain ⟨T15, X15, p15, bl15, sl15, st15⟩ := X13.finit hexec hown (wk W (.fieldLink "java/lang/String" 9 "java/lang/String" "value" "[B")) (Or.inr ⟨_, (wk W (.laysFinal "java/lang/String" "java/lang/String" "value" "[B"))⟩) (Or.inl ⟨rfl, hnm⟩) f1 (Or.inl rfl) bl13 (t := (.array .byte)) (by decide +kernel) rfl (g := (mkF m 54 #[.val (.ref a), .val (.ref b), .val (.int (Int32.ofNat o)), .val (.int (Int32.ofNat len)), .val .null, .val (.ref s.heap.size)] [.ref s.heap.size, .ref a])) rfl (rest := []) rfl (hb hbytes d54)
  have c16 : Steps p.tables e below (s₁.setTop (entryFrame m #[.ref a, .ref b, .int (Int32.ofNat o), .int (Int32.ofNat len), .null] 6)) (T15.setTop (mkF m 57 #[.val (.ref a), .val (.ref b), .val (.int (Int32.ofNat o)), .val (.int (Int32.ofNat len)), .val .null, .val (.ref s.heap.size)] [])) := c14.trans (st15 _ (Steps.refl _))
  have ap := apart (Or.inr ⟨_, (wk W (.laysFinal "java/lang/String" "java/lang/String" "value" "[B"))⟩) (Or.inr ⟨_, (wk W (.laysFinal "java/lang/String" "java/lang/String" "coder" "B"))⟩) f1 f2 (t₁ := .array .byte) (t₂ := .byte) (by decide +kernel) (by decide +kernel) (by decide)
  have al := X8.warmed.alike.symm.trans X15.warmed.alike
  have n7 : T11.heap[s.heap.size]? = some N := by rw [q11]; exact n1.1
  exact ⟨T15, none, _, _, _, X15, by simp, rfl, by omega, (fun _ => rfl), ⟨rfl, _, N, bl15, ((Same.refl D _).set _ (by simp)).set _ (by simp), sl15, (Cell.slots_setSlot_ne _ ap).trans sl13, n1.keep al (p15.other hne (p13.other hne n7)), n2, by rw [al.findClass]; exact n3, n4, n5, fun y c h1 h2 => p15.other h1 (p13.other h1 (by rw [q11]; exact n6 y c h2)), by rw [p15.2.2, p13.2.2, q11]; exact z8⟩, fun fs hl => c16.trans (X15.returnOut hexec hret (hb hbytes d57) hl)⟩
end New4
namespace New1
def yN : MethodName := ⟨"java/lang/String", "<init>", "([C)V"⟩
abbrev yB : ByteArray := jdk_42_method_3_code
theorem d0 : decode yB 0 = .ok (.aload_n 0, 1) := by decide +kernel
theorem d1 : decode yB 1 = .ok (.aload_n 1, 1) := by decide +kernel
theorem d2 : decode yB 2 = .ok (.iconst 0, 1) := by decide +kernel
theorem d3 : decode yB 3 = .ok (.aload_n 1, 1) := by decide +kernel
theorem d4 : decode yB 4 = .ok (.arraylength, 1) := by decide +kernel
theorem d5 : decode yB 5 = .ok (.aconst_null, 1) := by decide +kernel
theorem d6 : decode yB 6 = .ok (.invokespecial 27, 3) := by decide +kernel
theorem d9 : decode yB 9 = .ok (.return_, 1) := by decide +kernel
def site : List Cond := [New4.tab] ++ initW "java/lang/String" 27 New4.yN
def tab : Cond := tabOf yN yB 2 none site
def P (a : Addr) (D : Cell) (fV fC : Field) (b : Addr) (A : Cell) (z : Int32) (args : Array Value) (s : State) : Prop := args = #[.ref a, .ref b] ∧ Blank "java/lang/String" a D s ∧ Found "java/lang/String" "value" "[B" fV s ∧ Found "java/lang/String" "coder" "B" fC s ∧ Ch b A s ∧ StaticIs s "java/lang/String" "COMPACT_STRINGS" "Z" (.int z) ∧ ¬ z = 0 ∧ 0 < A.slots.size ∧ A.slots.size ≤ 536870912 ∧ ∀ i, i < A.slots.size → ¬ 255 < cv A i
def E (a : Addr) (D : Cell) (fV fC : Field) (A : Cell) (r : Option Value) (s u : State) : Prop := Got a D fV fC A 0 A.slots.size r s u
/-- new String(chars), not empty, no char above 255: a Latin-1 String of their low bytes -/
theorem law (l : Launch) (a : Addr) (D : Cell) (fV fC : Field) (b : Addr) (A : Cell) (z : Int32) : Law l yN 2 1 3 52 yB 2 none site (P a D fV fC b A z) (E a D fV fC A) [⟨a, fC.slot⟩, ⟨a, fV.slot⟩] 1 A.slots.size := by
  refine Law.of_walk (plainFor_of_name (by decide +kernel)) (by decide +kernel) (by decide +kernel) (by decide) (fun _ _ h => by rw [h.1]; rfl) (fun _ U U' hal hh h => ⟨h.1, h.2.1.mv hal hh, h.2.2.1.al hal, h.2.2.2.1.al hal, h.2.2.2.2.1.mv hal hh, h.2.2.2.2.2.1.there hal hh, h.2.2.2.2.2.2⟩) (fun r U U' V V' h1 hal h2 h => Got.mv r U U' V V' h1 hal h2 h) ?_
  intro p e s m args below meth c s₁ X0 hexec hbytes hml hret hlk hnm hown hh0 W hP
  obtain ⟨rfl, hB, f1, f2, hA, s1, hz, l0, l2, hp⟩ := hP
  have c1 : Steps p.tables e below (s₁.setTop (entryFrame m #[.ref a, .ref b] 2)) (s₁.setTop (mkF m 0 #[.val (.ref a), .val (.ref b)] [])) := entry rfl
  have c2 : Steps p.tables e below (s₁.setTop (entryFrame m #[.ref a, .ref b] 2)) (s₁.setTop (mkF m 6 #[.val (.ref a), .val (.ref b)] [.null, .int (Int32.ofNat A.slots.size), .int 0, .ref b, .ref a])) := c1.trans (by
    refine XS.aloadN X0.here hexec rfl (hb hbytes d0) rfl rfl ?_
    refine XS.aloadN X0.here hexec rfl (hb hbytes d1) rfl rfl ?_
    refine iconstV X0.here hexec rfl 0 (hb hbytes d2) (by decide) ?_
    refine XS.aloadN X0.here hexec rfl (hb hbytes d3) rfl rfl ?_
    refine X0.alen hexec (hA.1.mv X0.warmed.alike hh0) rfl rfl (hb hbytes d4) ?_
    refine XS.aconstNull X0.here hexec rfl (hb hbytes d5) ?_
    exact Steps.refl _)
  obtain ⟨v3, T3, X3, E3, g3⟩ := X0.callN hexec (New4.law l a D fV fC b A z 0 A.slots.size) rfl hown (wks W (initW "java/lang/String" 27 New4.yN)) (W New4.tab (by simp only [site, List.mem_cons, List.mem_append, true_or, or_true])) (W := 0) (Nat.le_of_ble_eq_true rfl) (Nat.le_of_ble_eq_true rfl) (Nat.le_refl _) (by show 0 + A.slots.size ≤ A.slots.size; omega) (g := (mkF m 6 #[.val (.ref a), .val (.ref b)] [.null, .int (Int32.ofNat A.slots.size), .int (Int32.ofNat 0), .ref b, .ref a])) rfl (by rw [hml]; rfl) c2 (argsL := [.ref b, .int (Int32.ofNat 0), .int (Int32.ofNat A.slots.size), .null]) (rest := []) rfl rfl (by show 2 * 0 + 0 ≤ _; decide) (hb hbytes d6) (⟨rfl, hB.mv X0.warmed.alike hh0, f1.al X0.warmed.alike, f2.al X0.warmed.alike, hA.mv X0.warmed.alike hh0, s1.there X0.warmed.alike hh0, hz, l0, by omega, l2, fun i hi => by rw [Nat.zero_add]; exact hp i hi⟩)
  have e0 := Got.mv _ s₁ s _ _ hh0.symm (Vm.Alike.refl _) rfl E3
  obtain rfl := e0.1
  have c4 : Steps p.tables e below (s₁.setTop (entryFrame m #[.ref a, .ref b] 2)) (T3.setTop (mkF m 9 #[.val (.ref a), .val (.ref b)] [])) := g3
  exact ⟨T3, none, _, _, _, X3, by simp, rfl, by omega, (fun _ => rfl), e0, fun fs hl => c4.trans (X3.returnOut hexec hret (hb hbytes d9) hl)⟩
theorem pays {l : Launch} {R : Room} {p : Program} {e : Env} {below : List Frame} {s : State} {sargs : Array Value} {len W : Nat} (a : Addr) (D : Cell) (fV fC : Field) (b : Addr) (A : Cell) (z : Int32) (htab : tab.before sargs s = true) (hfr : 4 ≤ R.frames) (hlo : W + 65 ≤ R.locals) :
    Back l R p e below s sargs yN len W (fun A₁ a₁ => A₁.cells + 1 ≤ R.cells ∧ A₁.slots + A.slots.size ≤ R.slots ∧ P a D fV fC b A z a₁ A₁.U) (fun A₁ _ v₁ B₁ => E a D fV fC A v₁ A₁.U B₁.U ∧ B₁.locs = A₁.locs ++ [⟨a, fC.slot⟩, ⟨a, fV.slot⟩] ∧ B₁.cells = A₁.cells + 1 ∧ B₁.slots = A₁.slots + A.slots.size) :=
  (law l a D fV fC b A z).pays htab hfr (by omega)
end New1
/-- the byte, read back as charAt reads it, is the char -/
theorem lo8_mask {x : Int32} (h0 : ¬ x < 0) (h1 : ¬ 255 < x) : lo8 x &&& 255 = x := by
  have t : ∀ k : Fin 256, lo8 (Int32.ofNat k.val) &&& 255 = Int32.ofNat k.val := by decide +kernel
  rw [Int32.lt_iff_toInt_lt] at h0 h1
  have e0 : (0 : Int32).toInt = 0 := rfl
  have e1 : (255 : Int32).toInt = 255 := rfl
  obtain ⟨k, hk⟩ : ∃ k : Nat, x.toInt = k := ⟨x.toInt.toNat, by omega⟩
  have hx : x = Int32.ofNat k := Int32.toInt_inj.mp (by rw [hk, Int32.toInt_ofNat_small (by omega)])
  rw [hx]
  exact t ⟨k, by omega⟩
end StrChars
namespace StrChars.Road
open Jvm Sem ClassFile Op Lib Jvm.Stand Jvm.Free Jvm.Free.XT
open Jvm.Lib.Cold (StaticIs)
abbrev ST : String := "java/lang/String"
/-- every table word that New1's law asks, flat -/
abbrev words : List Jvm.Cond := [.code New1.yN New1.yB 2 none, .initialized ST, .methodLink ST 27 New4.yN, .instanceMethod New4.yN,
  .code New4.yN New4.yB 6 none, .fieldLink ST 38 ST "COMPACT_STRINGS" "Z", .laysFinal ST ST "value" "[B", .fieldLink ST 9 ST "value" "[B", .laysFinal ST ST "coder" "B", .fieldLink ST 15 ST "coder" "B",
  .methodLink ST 1 Lib.objectInit, .instanceMethod Lib.objectInit, .code Lib.objectInit ⟨#[0xb1]⟩ 1 none, .methodLink ST 177 Cmp3.yN, .static Cmp3.yN, .methodLink ST 47 CodL.yN, .static CodL.yN,
  .code Cmp3.yN Cmp3.yB 6 (some (.array .byte)), .initialized U16, .arrayClass .byte, .methodLink U16 115 Cmp5.yN, .static Cmp5.yN, .code Cmp5.yN Cmp5.yB 7 (some .int), .code CodL.yN CodL.yB 2 (some .byte)]
theorem tab_of {a : Array Value} {s : State} (h : ∀ w ∈ words, w.before a s = true) : New1.tab.before a s = true := by
  have h5 : Cmp5.tab.before a s = true := unparts (wk h (.code Cmp5.yN Cmp5.yB 7 (some .int))) (wks h (.initialized Cmp5.yN.cls :: Cmp5.site))
  have hc : CodL.tab.before a s = true := unparts (wk h (.code CodL.yN CodL.yB 2 (some .byte))) (wks h (.initialized CodL.yN.cls :: CodL.site))
  have q5 : ∀ w ∈ Cmp5.tab :: words, w.before a s = true := fun w hw => (List.mem_cons.mp hw).elim (fun e => e ▸ h5) (h w)
  have h3 : Cmp3.tab.before a s = true := unparts (wk q5 (.code Cmp3.yN Cmp3.yB 6 (some (.array .byte)))) (wks q5 (.initialized Cmp3.yN.cls :: Cmp3.site))
  have q3 : ∀ w ∈ Cmp3.tab :: CodL.tab :: words, w.before a s = true := fun w hw => (List.mem_cons.mp hw).elim (fun e => e ▸ h3) fun hw => (List.mem_cons.mp hw).elim (fun e => e ▸ hc) (h w)
  have h4 : New4.tab.before a s = true := unparts (wk q3 (.code New4.yN New4.yB 6 none)) (wks q3 (.initialized New4.yN.cls :: New4.site))
  have q4 : ∀ w ∈ New4.tab :: words, w.before a s = true := fun w hw => (List.mem_cons.mp hw).elim (fun e => e ▸ h4) (h w)
  exact unparts (wk q4 (.code New1.yN New1.yB 2 none)) (wks q4 (.initialized New1.yN.cls :: New1.site))
/-- the words ride from the start Z to the walk's own state -/
theorem moved {Z s : State} {a0 args : Array Value} (hZ : Z.Warmed39 s.vm) (hw : ∀ d ∈ words, d.before a0 Z = true) : ∀ d ∈ words, d.before args s = true := fun d hd => by
  have q := hw d hd
  have t : ∀ d ∈ words, d = .arrayClass .byte ∨ (d.onTables && d.keepsFace) = true := by decide +kernel
  rcases t d hd with rfl | t
  · exact RoadKit.mvA hZ q
  · exact RoadKit.mv hZ q t
/-- WHAT COMES BACK, over the tables of the start Z: h the heap at the call, h' behind it -/
def Q (Z : State) (x : Addr) (A : Cell) (h : Heap) (v : Option Value) (h' : Heap) (L : List Loc) : Prop := v = none ∧ (∀ y ∈ L, y.base = x) ∧ RoadKit.Keep h h' [x] ∧ h'.size = h.size + 1 ∧ RoadKit.Exa Z h' x ST ∧ RoadKit.Fld Z h' x ST "value" "[B" (.ref h.size) ∧ RoadKit.Fld Z h' x ST "coder" "B" (.int 0) ∧
  (∃ V : Cell, RoadKit.Arr Z h' h.size V .byte ∧ V.vm = .none ∧ Z.vm.findClass "[B" = some V.cls ∧ V.slots.size = A.slots.size ∧ ∀ j, j < A.slots.size → V.slots[j]? = some (.int (lo8 (cv A j)))) ∧
  ∀ (O n d : String) (w : Value), RoadKit.Fld Z h x O n d w → RoadKit.slotOf Z O n d ≠ RoadKit.slotOf Z ST "value" "[B" → RoadKit.slotOf Z O n d ≠ RoadKit.slotOf Z ST "coder" "B" → RoadKit.Fld Z h' x O n d w
/-- **new String(chars) AT A CALL, IN THE ROAD'S FORM**: for specialBack behind newO: x the fresh String, b the char[] with the cell A -/
theorem back {p : Program} {l : Launch} {e : Env} {R : Room} {s : State} {args : Array Value} {below : List Frame} {len W : Nat} {Z : State} {a0 : Array Value} {h : Heap} (hZ : Z.Warmed39 s.vm) (hw : ∀ d ∈ words, d.before a0 Z = true) {kI : Nat} (wi : (Jvm.Cond.instantiable ST kI).before a0 Z = true)
    {x b : Addr} {A : Cell} {z : Int32} {v0 c0 : Value} (E : RoadKit.Exa Z h x ST) (V : RoadKit.Fld Z h x ST "value" "[B" v0) (C : RoadKit.Fld Z h x ST "coder" "B" c0) (K : RoadKit.Arr Z h b A .char) (hty : Typed .char A) (S : RoadKit.Sta Z h ST "COMPACT_STRINGS" "Z" (.int z)) (hz : ¬ z = 0)
    (l0 : 0 < A.slots.size) (l2 : A.slots.size ≤ 536870912) (hp : ∀ i, i < A.slots.size → ¬ 255 < cv A i) (hfr : 4 ≤ R.frames) (hlo : W + 65 ≤ R.locals) :
    Back l R p e below s args New1.yN len W (fun P a => a = #[.ref x, .ref b] ∧ P.U.heap = h ∧ P.cells + 1 ≤ R.cells ∧ P.slots + A.slots.size ≤ R.slots)
      (fun P _ v B => ∃ L, Q Z x A h v B.U.heap L ∧ B.locs = P.locs ++ L ∧ B.cells = P.cells + 1 ∧ B.slots = P.slots + A.slots.size) := by
  intro m meth c P g ig mk a X hg hsize hdg hW hn hp'
  obtain ⟨rfl, rfl, r1, r2⟩ := hp'
  have al : Z.vm.Alike P.U.vm := hZ.alike.trans X.warmed.alike
  obtain ⟨D, cfV, kV, iV, fV, hD, gV, stV, knV, obV, asV, slV⟩ := id V
  obtain ⟨D', cfC, kC, iC, fC, hD', gC, stC, -, -, asC, slC⟩ := id C
  cases hD.symm.trans hD'
  obtain ⟨D2, kD, e1, e2, e3, e4, e5⟩ := id E
  cases hD.symm.trans e1
  obtain ⟨c2, k2, i1, i2, i3, -⟩ := Cond.instantiable_spec wi
  cases e2.symm.trans i1
  cases e3.symm.trans i2
  obtain ⟨kU, u1, u2⟩ := al.2.2 _ _ e3
  have hB : Blank ST x D P.U := ⟨hD, ⟨knV, fun q hq => by rw [hq] at obV; cases obV⟩, by rw [al.findClass]; exact e2, kU, u1, by rw [u2]; exact i3, by rw [u2]; exact e5 i3⟩
  have F1 : Found ST "value" "[B" fV P.U := ⟨SBG.found_only al ⟨cfV, kV, iV, gV⟩, stV⟩
  have F2 : Found ST "coder" "B" fC P.U := ⟨SBG.found_only al ⟨cfC, kC, iC, gC⟩, stC⟩
  have hA : Ch b A P.U := ⟨⟨K.1, State.isArrayOf_alike al K.2.1, K.2.2, by omega⟩, hty⟩
  have hS : StaticIs P.U ST "COMPACT_STRINGS" "Z" (.int z) := by
    obtain ⟨cfS, iS, kS, fS, st, cS, t1, t2, t3, t4, t5, t6, t7⟩ := S
    exact StaticIs.there (s := { Z with heap := P.U.heap }) ⟨cfS, iS, kS, fS, st, cS, t1, t2, t3, t4, t5, (fun q => by rw [q] at t6; cases t6), t7⟩ al rfl
  obtain ⟨v, B, X', ⟨⟨hv, E', V', q1, q2, q3, q4, q5, q6, q7, q8, q9, q10, q11⟩, hl, hc, hs⟩, st⟩ := New1.pays x D fV fC b A z (tab_of (moved hZ hw)) hfr hlo m meth c P g ig mk _ X hg hsize hdg hW hn ⟨r1, r2, rfl, hB, F1, F2, hA, hS, hz, l0, l2, hp⟩
  have al' : Z.vm.Alike B.U.vm := hZ.alike.trans X'.warmed.alike
  have hsz : E'.slots.size = D.slots.size := by
    obtain ⟨-, -, -, kB, w1, w2, w3⟩ := q1
    obtain ⟨kB', y1, y2⟩ := al'.2.2 _ _ e3
    rw [q2.2.1] at w1
    cases w1.symm.trans y1
    rw [w3, e5 i3, y2]
  refine ⟨v, B, X', ⟨_, ⟨hv, ?_, ⟨by omega, fun y cy hy hn' => q10 y cy (by simpa using hn') hy, fun y cy hy => ?_⟩, q11, ⟨E', _, q1.1, by rw [q2.2.1]; exact e2, by rw [q2.2.1]; exact e3, by rw [q2.1]; exact obV, fun _ => by rw [hsz]; exact e5 i3⟩,
    ⟨E', cfV, kV, iV, fV, q1.1, gV, stV, by rw [q2.1]; exact knV, by rw [q2.1]; exact obV, by rw [q2.2.1]; exact asV, q3⟩, ⟨E', cfC, kC, iC, fC, q1.1, gC, stC, by rw [q2.1]; exact knV, by rw [q2.1]; exact obV, by rw [q2.2.1]; exact asC, q4⟩,
    ⟨V', ⟨q5.1, State.isArrayOf_alike al'.symm q5.2.1, q5.2.2.1⟩, q6, by rw [← al'.findClass]; exact q7, q8, fun j hj => by have := q9 j hj; rwa [Nat.zero_add] at this⟩, fun O n d w F n1 n2 => ?_⟩, hl, hc, hs⟩, st⟩
  · intro y hy
    simp only [List.mem_cons, List.not_mem_nil, or_false] at hy
    rcases hy with rfl | rfl <;> rfl
  · by_cases q : y = x
    · subst q
      cases hD.symm.trans hy
      exact ⟨E', q1.1, q2.2.1, q2.1, hsz⟩
    · exact ⟨cy, q10 y cy q hy, rfl, rfl, rfl⟩
  · obtain ⟨D3, cf, k, i, f, g1, g2, g3, g4, g5, g6, g7⟩ := F
    cases hD.symm.trans g1
    simp only [RoadKit.slotOf, g2, gV, gC, Option.map_some, Option.getD_some] at n1 n2
    exact ⟨E', cf, k, i, f, q1.1, g2, g3, by rw [q2.1]; exact g4, by rw [q2.1]; exact g5, by rw [q2.2.1]; exact g6, by rw [q2.2.2 f.slot (by simp [n1, n2])]; exact g7⟩
end StrChars.Road
namespace StrChars.Road
open Jvm Sem ClassFile Op Lib Jvm.Stand Jvm.Free Jvm.Free.XT
/-- WHAT COMES BACK, the byte[] as a list of values -/
def QA (Z : State) (x : Addr) (zn : Int32) (cs : List Int32) (h : Heap) (v : Option Value) (h' : Heap) (L : List Loc) : Prop := v = none ∧ (∀ y ∈ L, y.base = x) ∧ RoadKit.Keep h h' [x] ∧ h'.size = h.size + 1 ∧ RoadKit.Exa Z h' x ST ∧ RoadKit.Fld Z h' x ST "value" "[B" (.ref h.size) ∧ RoadKit.Fld Z h' x ST "coder" "B" (.int 0) ∧
  (∃ kb, Z.vm.findClass "[B" = some kb ∧ RoadKit.Arv Z h' h.size kb .byte zn (cs.map fun c => .int (lo8 c)) (.int 0)) ∧
  ∀ (O n d : String) (w : Value), RoadKit.Fld Z h x O n d w → RoadKit.slotOf Z O n d ≠ RoadKit.slotOf Z ST "value" "[B" → RoadKit.slotOf Z O n d ≠ RoadKit.slotOf Z ST "coder" "B" → RoadKit.Fld Z h' x O n d w
/-- **new String(chars) AT A CALL, THE ARRAYS AS LISTS**: the char[] at b holds cs, not empty, no char above 255 -/
theorem backArv {p : Program} {l : Launch} {e : Env} {R : Room} {s : State} {args : Array Value} {below : List Frame} {len W : Nat} {Z : State} {a0 : Array Value} {h : Heap} (hZ : Z.Warmed39 s.vm) (hw : ∀ d ∈ words, d.before a0 Z = true) {kI : Nat} (wi : (Jvm.Cond.instantiable ST kI).before a0 Z = true)
    {x b : Addr} {k : ClassId} {zn z : Int32} {cs : List Int32} {dv v0 c0 : Value} (E : RoadKit.Exa Z h x ST) (V : RoadKit.Fld Z h x ST "value" "[B" v0) (C : RoadKit.Fld Z h x ST "coder" "B" c0) (K : RoadKit.Arv Z h b k .char zn (cs.map Value.int) dv) (S : RoadKit.Sta Z h ST "COMPACT_STRINGS" "Z" (.int z)) (hz : ¬ z = 0)
    (hlen : zn.toNatClampNeg = cs.length) (h0 : 0 < cs.length) (hbig : cs.length ≤ 536870912) (hall : ∀ c ∈ cs, ¬ 255 < c) (hfr : 4 ≤ R.frames) (hlo : W + 65 ≤ R.locals) :
    Back l R p e below s args New1.yN len W (fun P a => a = #[.ref x, .ref b] ∧ P.U.heap = h ∧ P.cells + 1 ≤ R.cells ∧ P.slots + cs.length ≤ R.slots)
      (fun P _ v B => ∃ L, QA Z x zn cs h v B.U.heap L ∧ B.locs = P.locs ++ L ∧ B.cells = P.cells + 1 ∧ B.slots = P.slots + cs.length) := by
  obtain ⟨A, K1, K2, K3, K4, K5, K6⟩ := K
  have e : A.slots.size = cs.length := K3.trans hlen
  have hat : ∀ (i : Nat) (hi : i < cs.length), A.slots[i]? = some (.int cs[i]) := fun i hi => by rw [K5 i (by omega)]; simp [List.getD_eq_getElem?_getD, hi]
  have hcv : ∀ (i : Nat) (hi : i < cs.length), cv A i = cs[i] := fun i hi => by unfold cv; rw [hat i hi]
  have hty : Typed .char A := fun i v hv => by
    have hi : i < A.slots.size := (Array.getElem?_eq_some_iff.mp hv).1
    have q := K5 i hi
    rw [hv] at q
    rw [Option.some.inj q]
    exact K6 i hi
  refine Back.mono (back hZ hw wi E V C K1 hty S hz (by omega) (by omega) (fun i hi => by rw [hcv i (by omega)]; exact hall _ (List.getElem_mem _)) hfr hlo) (fun P a hp => ⟨hp.1, hp.2.1, hp.2.2.1, by rw [e]; exact hp.2.2.2⟩) (fun P a v B hp hq => ?_)
  obtain ⟨L, ⟨q1, q2, q3, q4, q5, q6, q7, ⟨V', v1, v2, v3, v4, v5⟩, q9⟩, hl, hc, hs⟩ := hq
  refine ⟨L, ⟨q1, q2, q3, q4, q5, q6, q7, ⟨V'.cls, v3, V', v1, rfl, by rw [v4, e, hlen], K4, fun i hi => ?_, fun i hi => ?_⟩, q9⟩, hl, hc, by rw [hs, e]⟩
  · have hi' : i < cs.length := by omega
    rw [v5 i (by omega), hcv i hi']; simp [List.getD_eq_getElem?_getD, hi']
  · have hi' : i < cs.length := by omega
    simp only [List.getD_eq_getElem?_getD, List.getElem?_map, List.getElem?_eq_getElem hi', Option.map_some, Option.getD_some]
    exact fits_lo8 _
end StrChars.Road
namespace StrChars.Road
open Jvm Sem ClassFile Op Lib Jvm.Stand Jvm.Free Jvm.Free.XT
/-- WHAT COMES BACK, in the writer's own shape -/
def QV (Z : State) (x : Addr) (N : Int32) (bs : List Int32) (h : Heap) (n0 : Nat) (v : Option Value) (h' : Heap) (L : List Loc) : Prop := v = none ∧ RoadKit.Fr n0 L ∧ RoadKit.Keep h h' [x] ∧ RoadKit.Exa Z h' x ST ∧ RoadKit.Fld Z h' x ST "coder" "B" (.int 0) ∧
  ∃ (t : Addr) (kb : ClassId), n0 ≤ t ∧ h.size ≤ t ∧ ¬ t = x ∧ RoadKit.Fld Z h' x ST "value" "[B" (.ref t) ∧ RoadKit.Arv Z h' t kb .byte N (bs.map Value.int) (.int 0)
/-- **new String(chars) AT A CALL, FOR THE WRITER**: a char[] of n known ints, each 0 to 255 -/
theorem backV {p : Program} {l : Launch} {e : Env} {R : Room} {s : State} {args : Array Value} {below : List Frame} {len W : Nat} {Z : State} {a0 : Array Value} {h : Heap} (hZ : Z.Warmed39 s.vm) (hw : ∀ d ∈ words, d.before a0 Z = true) {kI : Nat} (wi : (Jvm.Cond.instantiable ST kI).before a0 Z = true)
    {x b : Addr} {kC : ClassId} {cs bs : List Int32} {d v0 c0 : Value} {z N : Int32} {n n0 : Nat} (hx0 : n0 ≤ x) (hh0 : n0 ≤ h.size) (E : RoadKit.Exa Z h x ST) (V : RoadKit.Fld Z h x ST "value" "[B" v0) (C : RoadKit.Fld Z h x ST "coder" "B" c0) (K : RoadKit.Arv Z h b kC .char N (cs.map Value.int) d) (S : RoadKit.Sta Z h ST "COMPACT_STRINGS" "Z" (.int z)) (hz : ¬ z = 0)
    (hn : cs.length = n) (hN : N = Int32.ofNat n) (l0 : 0 < n) (l2 : n ≤ 4000) (hp : ∀ c ∈ cs, ¬ c < 0 ∧ ¬ (255 : Int32) < c) (hb : bs = cs.map (fun c => c.toInt8.toInt32)) (hfr : 4 ≤ R.frames) (hlo : W + 65 ≤ R.locals) :
    Back l R p e below s args (⟨"java/lang/String", "<init>", "([C)V"⟩ : MethodName) len W (fun P a => a = #[.ref x, .ref b] ∧ P.U.heap = h ∧ P.cells + 1 ≤ R.cells ∧ P.slots + n ≤ R.slots)
      (fun P _ v B => ∃ L, QV Z x N bs h n0 v B.U.heap L ∧ B.locs = P.locs ++ L ∧ B.cells = P.cells + 1 ∧ B.slots = P.slots + n) := by
  subst hn hN hb
  refine Back.mono (backArv hZ hw wi E V C K S hz (n32 (by omega)) l0 (by omega) (fun c hc => (hp c hc).2) hfr hlo) (fun P a hp => hp) (fun P a v B hp hq => ?_)
  obtain ⟨L, ⟨q1, q2, q3, q4, q5, q6, q7, ⟨kb, v1, v2⟩, q9⟩, hl, hc, hs⟩ := hq
  exact ⟨L, ⟨q1, fun y hy => by rw [q2 y hy]; exact hx0, q3, q5, q7, h.size, kb, hh0, Nat.le_refl _, Nat.ne_of_gt E.lt, q6, by rw [List.map_map]; exact v2⟩, hl, hc, hs⟩
end StrChars.Road
namespace StrChars
open Jvm Sem ClassFile Op Lib Jvm.Stand Jvm.Free.XT Jvm.Free.ALB Jvm.Free.JM Jvm.Free
open Jvm.Lib.Cold (StaticIs)
def hi8 (x : Int32) : Int32 := lo8 (x >>> ((8 : Int32) &&& 31))
/-- what StringUTF16.getChar makes of two bytes -/
def pairCh (u v : Int32) : Int32 := (((u &&& 255) <<< ((0 : Int32) &&& 31)) ||| ((v &&& 255) <<< ((8 : Int32) &&& 31))).toUInt32.toUInt16.toUInt32.toInt32
theorem shr0 (c : Int32) : c >>> ((0 : Int32) &&& 31) = c := by
  have e : ((0 : Int32) &&& 31) = 0 := by decide
  rw [e]
  apply Int32.toBitVec_inj.mp
  rw [Int32.toBitVec_shiftRight]
  have e1 : ((0 : Int32).toBitVec.smod 32) = 0#32 := by decide
  rw [e1, BitVec.sshiftRight_eq']
  exact BitVec.sshiftRight_zero
theorem lo8_and (x : Int32) : (lo8 x &&& 255).toBitVec.toNat = x.toBitVec.toNat % 256 := by
  have h : (lo8 x).toBitVec = (x.toBitVec.signExtend 8).signExtend 32 := by rw [lo8, Int8.toBitVec_toInt32, Int32.toBitVec_toInt8]
  rw [Int32.toBitVec_and, BitVec.toNat_and, h]
  have e : ((x.toBitVec.signExtend 8).signExtend 32).toNat % 256 = x.toBitVec.toNat % 256 := by
    rw [BitVec.toNat_signExtend]
    have hlt := x.toBitVec.isLt
    simp only [BitVec.toNat_setWidth, BitVec.toNat_signExtend]
    split <;> split <;> omega
  rw [← e]
  exact Nat.and_two_pow_sub_one_eq_mod _ 8
theorem pair_says {c : Int32} (h0 : ¬ c < 0) (h1 : ¬ 65535 < c) : pairCh (lo8 c) (hi8 c) = c := by
  rw [Int32.lt_iff_toInt_lt] at h0 h1
  have e0 : (0 : Int32).toInt = 0 := rfl
  have e1 : (65535 : Int32).toInt = 65535 := rfl
  have hc : c.toInt = c.toBitVec.toNat := by
    have := c.toBitVec.isLt
    have e : c.toInt = c.toBitVec.toInt := rfl
    rw [e] at h0 h1
    rw [e]
    rw [BitVec.toInt_eq_toNat_cond] at h0 h1 ⊢
    split at h0 <;> split <;> omega
  have hn : c.toBitVec.toNat < 65536 := by omega
  have a1 := lo8_and c
  have a2 : (hi8 c &&& 255).toBitVec.toNat = c.toBitVec.toNat / 256 := by
    rw [hi8, lo8_and]
    have e : ((8 : Int32) &&& 31) = 8 := by decide
    rw [e, Int32.toBitVec_shiftRight]
    have e2 : ((8 : Int32).toBitVec.smod 32) = 8#32 := by decide
    rw [e2, BitVec.sshiftRight_eq', BitVec.toNat_sshiftRight_of_msb_false (by rw [BitVec.msb_eq_false_iff_two_mul_lt]; omega)]
    show c.toBitVec.toNat >>> 8 % 256 = _
    rw [Nat.shiftRight_eq_div_pow]
    omega
  unfold pairCh
  apply Int32.toBitVec_inj.mp
  apply BitVec.eq_of_toNat_eq
  have f0 : ((0 : Int32) &&& 31) = 0 := by decide
  have f8 : ((8 : Int32) &&& 31) = 8 := by decide
  rw [f0, f8]
  have g : (((lo8 c &&& 255) <<< (0 : Int32)) ||| ((hi8 c &&& 255) <<< (8 : Int32))).toBitVec.toNat = c.toBitVec.toNat := by
    rw [Int32.toBitVec_or, Int32.toBitVec_shiftLeft, Int32.toBitVec_shiftLeft]
    have s0 : ((0 : Int32).toBitVec.smod 32) = 0#32 := by decide
    have s8 : ((8 : Int32).toBitVec.smod 32) = 8#32 := by decide
    rw [s0, s8, BitVec.toNat_or]
    simp only [BitVec.shiftLeft_eq', BitVec.toNat_shiftLeft, a1, a2]
    show (c.toBitVec.toNat % 256) <<< 0 % 2 ^ 32 ||| (c.toBitVec.toNat / 256) <<< 8 % 2 ^ 32 = _
    rw [Nat.shiftLeft_zero, Nat.mod_eq_of_lt (show c.toBitVec.toNat % 256 < 2 ^ 32 by omega), Nat.mod_eq_of_lt (show (c.toBitVec.toNat / 256) <<< 8 < 2 ^ 32 by rw [Nat.shiftLeft_eq]; omega), Nat.or_comm, ← Nat.shiftLeft_add_eq_or_of_lt (by omega), Nat.shiftLeft_eq]
    omega
  show BitVec.toNat (((((lo8 c &&& 255) <<< (0 : Int32)) ||| ((hi8 c &&& 255) <<< (8 : Int32))).toBitVec.setWidth 16).setWidth 32) = _
  rw [BitVec.toNat_setWidth, BitVec.toNat_setWidth, g]
  omega
end StrChars
namespace StrChars
open Jvm Sem ClassFile Op Lib Jvm.Stand Jvm.Free.XT Jvm.Free.ALB Jvm.Free.JM Jvm.Free
open Jvm.Lib.Cold (StaticIs)
theorem shr1 {n : Nat} (h : 2 * n < 2 ^ 31) : Int32.ofNat (2 * n) >>> ((1 : Int32) &&& 31) = Int32.ofNat n := by
  have e : ((1 : Int32) &&& 31) = 1 := by decide
  rw [e]
  apply Int32.toBitVec_inj.mp
  rw [Int32.toBitVec_shiftRight]
  have e1 : ((1 : Int32).toBitVec.smod 32) = 1#32 := by decide
  have hm : (BitVec.ofNat 32 (2 * n)).toNat = 2 * n := by rw [BitVec.toNat_ofNat, Nat.mod_eq_of_lt (by omega)]
  rw [e1, BitVec.sshiftRight_eq']
  apply BitVec.eq_of_toNat_eq
  show ((BitVec.ofNat 32 (2 * n)).sshiftRight 1).toNat = (BitVec.ofNat 32 n).toNat
  rw [BitVec.toNat_sshiftRight_of_msb_false (by rw [BitVec.msb_eq_false_iff_two_mul_lt, hm]; omega), hm, BitVec.toNat_ofNat, Nat.shiftRight_eq_div_pow]
  omega
/-- charAt's cast of a byte read back -/
def chr8 (u : Int32) : Int32 := (u &&& 255).toUInt32.toUInt16.toUInt32.toInt32
theorem chr8_lo8 {c : Int32} (h0 : ¬ c < 0) (h1 : ¬ 255 < c) : chr8 (lo8 c) = c := by
  have t : ∀ k : Fin 256, (Int32.ofNat k.val).toUInt32.toUInt16.toUInt32.toInt32 = Int32.ofNat k.val := by decide +kernel
  unfold chr8
  rw [lo8_mask h0 h1]
  rw [Int32.lt_iff_toInt_lt] at h0 h1
  have e0 : (0 : Int32).toInt = 0 := rfl
  have e1 : (255 : Int32).toInt = 255 := rfl
  obtain ⟨k, hk⟩ : ∃ k : Nat, c.toInt = k := ⟨c.toInt.toNat, by omega⟩
  have hx : c = Int32.ofNat k := Int32.toInt_inj.mp (by rw [hk, Int32.toInt_ofNat_small (by omega)])
  rw [hx]
  exact t ⟨k, by omega⟩
/-- the array's cell V codes the n chars f 0 .. f (n - 1) by the coder cd, as the JDK does: coder 1 just where some char is above 255 -/
def Cod (cd : Int32) (n : Nat) (f : Nat → Int32) (V : Cell) : Prop := (cd = 0 ∧ V.slots.size = n ∧ ∀ j, j < n → V.slots[j]? = some (.int (lo8 (f j))) ∧ ¬ 255 < f j) ∨ (cd = 1 ∧ V.slots.size = 2 * n ∧ (∀ j, j < n → V.slots[2 * j]? = some (.int (lo8 (f j))) ∧ V.slots[2 * j + 1]? = some (.int (hi8 (f j)))) ∧ ∃ j, j < n ∧ 255 < f j)
theorem Cod.cd {cd : Int32} {n : Nat} {f : Nat → Int32} {V : Cell} (h : Cod cd n f V) : cd = 0 ∨ cd = 1 := h.imp (fun q => q.1) fun q => q.1
theorem Cod.len {cd : Int32} {n : Nat} {f : Nat → Int32} {V : Cell} (h : Cod cd n f V) (hs : V.slots.size < 2 ^ 31) : Int32.ofNat V.slots.size >>> (cd &&& 31) = Int32.ofNat n := by
  rcases h with ⟨rfl, h, -⟩ | ⟨rfl, h, -⟩
  · rw [shr0, h]
  · rw [h, shr1 (by omega)]
/-- **x is a String of the n chars f 0 .. f (n - 1)**, Latin-1 or UTF-16; its array at t has the cell V -/
def Txt (x t : Addr) (V : Cell) (cd : Int32) (n : Nat) (f : Nat → Int32) (U : State) : Prop := Exact "java/lang/String" x U ∧ Has x "java/lang/String" "value" "[B" (.ref t) U ∧ Has x "java/lang/String" "coder" "B" (.int cd) U ∧ XT.Arr .byte t V U ∧ Cod cd n f V ∧ ∀ j, j < n → ¬ f j < 0 ∧ ¬ 65535 < f j
theorem Txt.mv {x t : Addr} {V : Cell} {cd : Int32} {n : Nat} {f : Nat → Int32} {U U' : State} (h : Txt x t V cd n f U) (hal : U.vm.Alike U'.vm) (hh : U'.heap = U.heap) : Txt x t V cd n f U' := ⟨h.1.mv hal hh, h.2.1.mv hal hh, h.2.2.1.mv hal hh, h.2.2.2.1.mv hal hh, h.2.2.2.2⟩
namespace Cdr
def yN : MethodName := ⟨"java/lang/String", "coder", "()B"⟩
abbrev yB : ByteArray := jdk_42_method_152_code
theorem d0 : decode yB 0 = .ok (.getstatic 38, 3) := by decide +kernel
theorem d3 : decode yB 3 = .ok (.ifCond (.eq) 10, 3) := by decide +kernel
theorem d6 : decode yB 6 = .ok (.aload_n 0, 1) := by decide +kernel
theorem d7 : decode yB 7 = .ok (.getfield 15, 3) := by decide +kernel
theorem d10 : decode yB 10 = .ok (.goto 4, 3) := by decide +kernel
theorem d14 : decode yB 14 = .ok (.ireturn, 1) := by decide +kernel
def site : List Cond := [.fieldLink "java/lang/String" 38 "java/lang/String" "COMPACT_STRINGS" "Z", .fieldLink "java/lang/String" 15 "java/lang/String" "coder" "B"]
def tab : Cond := tabOf yN yB 1 (some .byte) site
def P (x : Addr) (cd z : Int32) (args : Array Value) (s : State) : Prop := args = #[.ref x] ∧ Has x "java/lang/String" "coder" "B" (.int cd) s ∧ (cd = 0 ∨ cd = 1) ∧ StaticIs s "java/lang/String" "COMPACT_STRINGS" "Z" (.int z) ∧ ¬ z = 0
def E (cd : Int32) (r : Option Value) (s u : State) : Prop := XT.PureE (some (.int cd)) r s u
theorem law (l : Launch) (x : Addr) (cd z : Int32) : Law l yN 1 0 0 0 yB 1 (some .byte) site (P x cd z) (E cd) [] 0 0 := by
  refine Law.of_walk (plainFor_of_name (by decide +kernel)) (by decide +kernel) (by decide +kernel) (by decide) (fun _ _ h => by rw [h.1]; rfl) (fun _ U U' hal hh h => ⟨h.1, h.2.1.mv hal hh, h.2.2.1, h.2.2.2.1.there hal hh, h.2.2.2.2⟩) (fun r U U' V V' h1 hal h2 h => XT.PureE.mv r U U' V V' h1 hal h2 h) ?_
  intro p e s m args below meth c s₁ X0 hexec hbytes hml hret hlk hnm hown hh0 W hP
  obtain ⟨rfl, hx, hc, s1, hz⟩ := hP
  have c1 : Steps p.tables e below (s₁.setTop (entryFrame m #[.ref x] 1)) (s₁.setTop (mkF m 0 #[.val (.ref x)] [])) := entry rfl
  obtain ⟨T2, X2, q2, st2⟩ := X0.sget hexec hown (wk W (.fieldLink "java/lang/String" 38 "java/lang/String" "COMPACT_STRINGS" "Z")) s1 (fun _ _ h => by rw [hh0]; exact h) (g := (mkF m 0 #[.val (.ref x)] [])) rfl (hb hbytes d0)
  have hh2 := q2.trans hh0
  have c3 : Steps p.tables e below (s₁.setTop (entryFrame m #[.ref x] 1)) (T2.setTop (mkF m 7 #[.val (.ref x)] [.ref x])) := (c1.trans (st2 _ (Steps.refl _))).trans (by
    refine XS.ifNo X2.here hexec rfl (hb hbytes d3) rfl (i0_eq_f hz) ?_
    refine XS.aloadN X2.here hexec rfl (hb hbytes d6) rfl rfl ?_
    exact Steps.refl _)
  obtain ⟨T4, X4, q4, st4⟩ := X2.hget hexec hown (wk W (.fieldLink "java/lang/String" 15 "java/lang/String" "coder" "B")) (hx.mv X2.warmed.alike hh2) (g := (mkF m 7 #[.val (.ref x)] [.ref x])) rfl (rest := []) rfl (hb hbytes d7)
  have c5 : Steps p.tables e below (s₁.setTop (entryFrame m #[.ref x] 1)) (T4.setTop (mkF m 14 #[.val (.ref x)] [.int cd])) := (c3.trans (st4 _ (Steps.refl _))).trans (by
    refine XS.goto X4.here hexec rfl (pc0 := 10) rfl (hb hbytes d10) (by decide) rfl ?_
    exact Steps.refl _)
  exact ⟨T4, some (.int cd), _, _, _, X4, rfl, rfl, rfl, (fun h => by cases h), ⟨rfl, q4.trans hh2⟩, fun fs hl => c5.trans (X4.ireturnOut hexec hret (by rcases hc with rfl | rfl <;> rfl) (Or.inr (Or.inr (Or.inl rfl))) (hb hbytes d14) hl)⟩
end Cdr
namespace Len
def yN : MethodName := ⟨"java/lang/String", "length", "()I"⟩
abbrev yB : ByteArray := jdk_42_method_54_code
theorem d0 : decode yB 0 = .ok (.aload_n 0, 1) := by decide +kernel
theorem d1 : decode yB 1 = .ok (.getfield 9, 3) := by decide +kernel
theorem d4 : decode yB 4 = .ok (.arraylength, 1) := by decide +kernel
theorem d5 : decode yB 5 = .ok (.aload_n 0, 1) := by decide +kernel
theorem d6 : decode yB 6 = .ok (.invokevirtual 335, 3) := by decide +kernel
theorem d9 : decode yB 9 = .ok (.ishr, 1) := by decide +kernel
theorem d10 : decode yB 10 = .ok (.ireturn, 1) := by decide +kernel
def site : List Cond := [.fieldLink "java/lang/String" 9 "java/lang/String" "value" "[B", Cdr.tab] ++ virtW "java/lang/String" 335 "java/lang/String" Cdr.yN Cdr.yN
def tab : Cond := tabOf yN yB 1 (some .int) site
def P (x t : Addr) (V : Cell) (cd : Int32) (n : Nat) (f : Nat → Int32) (z : Int32) (args : Array Value) (s : State) : Prop := args = #[.ref x] ∧ Txt x t V cd n f s ∧ StaticIs s "java/lang/String" "COMPACT_STRINGS" "Z" (.int z) ∧ ¬ z = 0
def E (n : Nat) (r : Option Value) (s u : State) : Prop := XT.PureE (some (.int (Int32.ofNat n))) r s u
/-- length() of a String of n chars, in either coding -/
theorem law (l : Launch) (x t : Addr) (V : Cell) (cd : Int32) (n : Nat) (f : Nat → Int32) (z : Int32) : Law l yN 1 0 1 13 yB 1 (some .int) site (P x t V cd n f z) (E n) [] 0 0 := by
  refine Law.of_walk (plainFor_of_name (by decide +kernel)) (by decide +kernel) (by decide +kernel) (by decide) (fun _ _ h => by rw [h.1]; rfl) (fun _ U U' hal hh h => ⟨h.1, h.2.1.mv hal hh, h.2.2.1.there hal hh, h.2.2.2⟩) (fun r U U' V V' h1 hal h2 h => XT.PureE.mv r U U' V V' h1 hal h2 h) ?_
  intro p e s m args below meth c s₁ X0 hexec hbytes hml hret hlk hnm hown hh0 W hP
  obtain ⟨rfl, hx, s1, hz⟩ := hP
  have v31 := hx.2.2.2.1.2.2.2
  have c1 : Steps p.tables e below (s₁.setTop (entryFrame m #[.ref x] 1)) (s₁.setTop (mkF m 1 #[.val (.ref x)] [.ref x])) := Steps.trans (entry rfl) (by
    show Steps p.tables e below (s₁.setTop (mkF m 0 #[.val (.ref x)] [])) _
    refine XS.aloadN X0.here hexec rfl (hb hbytes d0) rfl rfl ?_
    exact Steps.refl _)
  obtain ⟨T2, X2, q2, st2⟩ := X0.hget hexec hown (wk W (.fieldLink "java/lang/String" 9 "java/lang/String" "value" "[B")) (hx.mv X0.warmed.alike hh0).2.1 (g := (mkF m 1 #[.val (.ref x)] [.ref x])) rfl (rest := []) rfl (hb hbytes d1)
  have hh2 := q2.trans hh0
  have hx2 := hx.mv X2.warmed.alike hh2
  have c3 : Steps p.tables e below (s₁.setTop (entryFrame m #[.ref x] 1)) (T2.setTop (mkF m 6 #[.val (.ref x)] [.ref x, .int (Int32.ofNat V.slots.size)])) := (c1.trans (st2 _ (Steps.refl _))).trans (by
    refine X2.alen hexec hx2.2.2.2.1 rfl rfl (hb hbytes d4) ?_
    refine XS.aloadN X2.here hexec rfl (hb hbytes d5) rfl rfl ?_
    exact Steps.refl _)
  obtain ⟨v4, T4, X4, E4, g4⟩ := X2.callV hexec (Cdr.law l x cd z) hown (wks W (virtW "java/lang/String" 335 "java/lang/String" Cdr.yN Cdr.yN)) rfl (by decide) (wk W Cdr.tab) (W := 1) (Nat.le_of_ble_eq_true rfl) (Nat.le_of_ble_eq_true rfl) (Nat.le_refl _) (Nat.le_refl _) (hx2.1.fc X2.warmed.alike) hx2.1.is (g := (mkF m 6 #[.val (.ref x)] [.ref x, .int (Int32.ofNat V.slots.size)])) rfl (by rw [hml]; rfl) c3 (argsL := []) (rest := [.int (Int32.ofNat V.slots.size)]) rfl rfl (by show 2 * 0 + (1 + 0) ≤ _; decide) (hb hbytes d6) (⟨rfl, hx2.2.2.1, hx.2.2.2.2.1.cd, s1.there X2.warmed.alike hh2, hz⟩)
  obtain ⟨rfl, q4⟩ := E4
  have c5 : Steps p.tables e below (s₁.setTop (entryFrame m #[.ref x] 1)) (T4.setTop (mkF m 10 #[.val (.ref x)] [.int (Int32.ofNat V.slots.size >>> (cd &&& 31))])) := Steps.trans g4 (by
    refine ishr X4.here hexec rfl (hb hbytes d9) rfl ?_
    exact Steps.refl _)
  rw [hx.2.2.2.2.1.len v31] at c5
  exact ⟨T4, some (.int (Int32.ofNat n)), _, _, _, X4, rfl, rfl, rfl, (fun h => by cases h), ⟨rfl, q4.trans hh2⟩, fun fs hl => c5.trans (X4.ireturnOut hexec hret rfl (Or.inl rfl) (hb hbytes d10) hl)⟩
theorem pays {l : Launch} {R : Room} {p : Program} {e : Env} {below : List Frame} {s : State} {sargs : Array Value} {len W : Nat} (x t : Addr) (V : Cell) (cd : Int32) (n : Nat) (f : Nat → Int32) (z : Int32) (htab : tab.before sargs s = true) (hfr : 2 ≤ R.frames) (hlo : W + 25 ≤ R.locals) :
    Back l R p e below s sargs yN len W (fun A₁ a₁ => A₁.cells + 0 ≤ R.cells ∧ A₁.slots + 0 ≤ R.slots ∧ P x t V cd n f z a₁ A₁.U) (fun A₁ _ v₁ B₁ => E n v₁ A₁.U B₁.U ∧ B₁.locs = A₁.locs ++ [] ∧ B₁.cells = A₁.cells + 0 ∧ B₁.slots = A₁.slots + 0) :=
  (law l x t V cd n f z).pays htab hfr (by omega)
end Len
end StrChars
namespace StrChars.Road
open Jvm Sem ClassFile Op Lib Jvm.Stand Jvm.Free Jvm.Free.XT
open Jvm.Lib.Cold (StaticIs)
theorem consq {a : Array Value} {s : State} {c : Jvm.Cond} {L : List Jvm.Cond} (h0 : c.before a s = true) (h : ∀ w ∈ L, w.before a s = true) : ∀ w ∈ c :: L, w.before a s = true := fun w hw => (List.mem_cons.mp hw).elim (fun e => e ▸ h0) (h w)
/-- the words of String.length(), either coding -/
abbrev wordsLen : List Jvm.Cond := [.code Len.yN Len.yB 1 (some .int), .initialized ST, .fieldLink ST 9 ST "value" "[B", .fieldLink ST 38 ST "COMPACT_STRINGS" "Z", .fieldLink ST 15 ST "coder" "B", .code Cdr.yN Cdr.yB 1 (some .byte), .methodLink ST 335 Cdr.yN, .declares Cdr.yN, .selects ST Cdr.yN Cdr.yN, .instanceMethod Cdr.yN]
theorem tabLen_of {a : Array Value} {s : State} (h : ∀ w ∈ wordsLen, w.before a s = true) : Len.tab.before a s = true := by
  have hc : Cdr.tab.before a s = true := unparts (wk h (.code Cdr.yN Cdr.yB 1 (some .byte))) (wks h (.initialized Cdr.yN.cls :: Cdr.site))
  have q := consq hc h
  exact unparts (wk q (.code Len.yN Len.yB 1 (some .int))) (wks q (.initialized Len.yN.cls :: Len.site))
theorem movedLen {Z s : State} {a0 args : Array Value} (hZ : Z.Warmed39 s.vm) (hw : ∀ d ∈ wordsLen, d.before a0 Z = true) : ∀ d ∈ wordsLen, d.before args s = true := fun d hd => by
  have q := hw d hd
  have t : ∀ d ∈ wordsLen, d = .arrayClass .byte ∨ (d.onTables && d.keepsFace) = true := by decide +kernel
  rcases t d hd with rfl | t
  · exact RoadKit.mvA hZ q
  · exact RoadKit.mv hZ q t
/-- the bytes of the chars cs, low before high -/
def wideBytes : List Int32 → List Value
  | [] => []
  | c :: cs => .int (lo8 c) :: .int (hi8 c) :: wideBytes cs
theorem wide_lo (d : Value) : ∀ (cs : List Int32) (j : Nat), j < cs.length → (wideBytes cs).getD (2 * j) d = .int (lo8 (cs.getD j 0))
  | [], j, h => absurd h (Nat.not_lt_zero j)
  | c :: cs, 0, _ => rfl
  | c :: cs, j + 1, h => by
    have q := wide_lo d cs j (by simpa using h)
    rw [show 2 * (j + 1) = 2 * j + 1 + 1 from by omega]
    simpa [wideBytes] using q
theorem wide_hi (d : Value) : ∀ (cs : List Int32) (j : Nat), j < cs.length → (wideBytes cs).getD (2 * j + 1) d = .int (hi8 (cs.getD j 0))
  | [], j, h => absurd h (Nat.not_lt_zero j)
  | c :: cs, 0, _ => rfl
  | c :: cs, j + 1, h => by
    have q := wide_hi d cs j (by simpa using h)
    rw [show 2 * (j + 1) + 1 = 2 * j + 1 + 1 + 1 from by omega]
    simpa [wideBytes] using q
theorem low_at (d : Value) (cs : List Int32) (j : Nat) (h : j < cs.length) : (cs.map fun c => Value.int (lo8 c)).getD j d = .int (lo8 (cs.getD j 0)) := by
  simp [List.getD_eq_getElem?_getD, h]
/-- an array of N2 bytes vs codes the chars cs by the coder cd -/
def CodA (cs : List Int32) (cd N2 : Int32) (vs : List Value) : Prop := (cd = 0 ∧ N2 = Int32.ofNat cs.length ∧ vs = (cs.map fun c => Value.int (lo8 c)) ∧ ∀ c ∈ cs, ¬ 255 < c) ∨ (cd = 1 ∧ N2 = Int32.ofNat (2 * cs.length) ∧ vs = wideBytes cs ∧ ∃ c ∈ cs, 255 < c)
theorem CodA.cod {cs : List Int32} {cd N2 : Int32} {vs : List Value} {V : Cell} (h : CodA cs cd N2 vs) (hn : 2 * cs.length < 2 ^ 31) (hs : V.slots.size = N2.toNatClampNeg) (hv : RoadKit.Has V vs (.int 0)) : Cod cd cs.length (fun j => cs.getD j 0) V := by
  rcases h with ⟨rfl, rfl, rfl, h⟩ | ⟨rfl, rfl, rfl, c, hc, hw⟩
  · rw [n32 (by omega)] at hs
    exact Or.inl ⟨rfl, hs, fun j hj => ⟨by rw [hv j (by omega), low_at _ _ _ hj], by
      have e : cs.getD j 0 = cs[j] := by simp [List.getD_eq_getElem?_getD, hj]
      show ¬ 255 < cs.getD j 0
      rw [e]; exact h _ (List.getElem_mem _)⟩⟩
  · rw [n32 (by omega)] at hs
    obtain ⟨j, hj, rfl⟩ := List.getElem_of_mem hc
    exact Or.inr ⟨rfl, hs, fun j hj => ⟨by rw [hv _ (by omega), wide_lo _ _ _ hj], by rw [hv _ (by omega), wide_hi _ _ _ hj]⟩, j, hj, by
      have e : cs.getD j 0 = cs[j] := by simp [List.getD_eq_getElem?_getD, hj]
      show 255 < cs.getD j 0
      rw [e]; exact hw⟩
/-- an object of exactly java/lang/String, its two fields found: as the laws ask it -/
theorem strObj {Z U : State} {a0 : Array Value} {kI : Nat} (wi : (Jvm.Cond.instantiable ST kI).before a0 Z = true) (al : Z.vm.Alike U.vm) {x : Addr} {v0 c0 : Value} (E : RoadKit.Exa Z U.heap x ST) (V : RoadKit.Fld Z U.heap x ST "value" "[B" v0) (C : RoadKit.Fld Z U.heap x ST "coder" "B" c0) :
    ∃ (D : Cell) (fV fC : Field), Blank ST x D U ∧ Found ST "value" "[B" fV U ∧ Found ST "coder" "B" fC U ∧ D.slots[fV.slot]? = some v0 ∧ D.slots[fC.slot]? = some c0 ∧ RoadKit.slotOf Z ST "value" "[B" = fV.slot ∧ RoadKit.slotOf Z ST "coder" "B" = fC.slot := by
  obtain ⟨D, cfV, kV, iV, fV, hD, gV, stV, knV, obV, asV, slV⟩ := V
  obtain ⟨D', cfC, kC, iC, fC, hD', gC, stC, -, -, asC, slC⟩ := C
  cases hD.symm.trans hD'
  obtain ⟨D2, kD, e1, e2, e3, e4, e5⟩ := E
  cases hD.symm.trans e1
  obtain ⟨c2, k2, i1, i2, i3, -⟩ := Cond.instantiable_spec wi
  cases e2.symm.trans i1
  cases e3.symm.trans i2
  obtain ⟨kU, u1, u2⟩ := al.2.2 _ _ e3
  exact ⟨D, fV, fC, ⟨hD, ⟨knV, fun q hq => by rw [hq] at obV; cases obV⟩, by rw [al.findClass]; exact e2, kU, u1, by rw [u2]; exact i3, by rw [u2]; exact e5 i3⟩, ⟨SBG.found_only al ⟨cfV, kV, iV, gV⟩, stV⟩, ⟨SBG.found_only al ⟨cfC, kC, iC, gC⟩, stC⟩, slV, slC, by simp [RoadKit.slotOf, gV], by simp [RoadKit.slotOf, gC]⟩
theorem sta_is {Z U : State} (al : Z.vm.Alike U.vm) {C n d : String} {v : Value} (S : RoadKit.Sta Z U.heap C n d v) : StaticIs U C n d v := by
  obtain ⟨cfS, iS, kS, fS, st, cS, t1, t2, t3, t4, t5, t6, t7⟩ := S
  exact StaticIs.there (s := { Z with heap := U.heap }) ⟨cfS, iS, kS, fS, st, cS, t1, t2, t3, t4, t5, (fun q => by rw [q] at t6; cases t6), t7⟩ al rfl
/-- **length() OF SUCH A STRING** -/
theorem lenW {p : Program} {l : Launch} {e : Env} {R : Room} {s : State} {args : Array Value} {below : List Frame} {len W : Nat} {Z : State} {a0 : Array Value} {h : Heap} (hZ : Z.Warmed39 s.vm) (hw : ∀ d ∈ wordsLen, d.before a0 Z = true) {kI : Nat} (wi : (Jvm.Cond.instantiable ST kI).before a0 Z = true)
    {x t : Addr} {kb : ClassId} {cs : List Int32} {cd N2 z : Int32} {vs : List Value} (E : RoadKit.Exa Z h x ST) (V : RoadKit.Fld Z h x ST "value" "[B" (.ref t)) (C : RoadKit.Fld Z h x ST "coder" "B" (.int cd)) (K : RoadKit.Arv Z h t kb .byte N2 vs (.int 0)) (hc : CodA cs cd N2 vs) (hb : ∀ c ∈ cs, ¬ c < 0 ∧ ¬ (65535 : Int32) < c)
    (S : RoadKit.Sta Z h ST "COMPACT_STRINGS" "Z" (.int z)) (hz : ¬ z = 0) (l2 : cs.length ≤ 4000) (hfr : 2 ≤ R.frames) (hlo : W + 25 ≤ R.locals) :
    Back l R p e below s args (⟨"java/lang/String", "length", "()I"⟩ : MethodName) len W (fun P a => a = #[.ref x] ∧ P.U.heap = h ∧ P.cells + 0 ≤ R.cells ∧ P.slots + 0 ≤ R.slots)
      (fun P _ v B => ∃ L, (v = some (.int (Int32.ofNat cs.length)) ∧ L = [] ∧ B.U.heap = h) ∧ B.locs = P.locs ++ L ∧ B.cells = P.cells + 0 ∧ B.slots = P.slots + 0) := by
  obtain ⟨A, K1, K2, K3, K4, K5, K6⟩ := K
  have hcod := hc.cod (by omega) K3 K5
  intro m meth c P g ig mk a X hg hsize hdg hW hn hp'
  obtain ⟨rfl, rfl, r1, r2⟩ := hp'
  have al : Z.vm.Alike P.U.vm := hZ.alike.trans X.warmed.alike
  obtain ⟨D, fV, fC, hB, F1, F2, g1, g2, -, -⟩ := strObj wi al E V C
  have hx : Txt x t A cd cs.length (fun j => cs.getD j 0) P.U := ⟨⟨_, hB.2.2.1, D, hB.1, rfl, by cases q : D.vm <;> first | rfl | exact absurd q (hB.2.1.2 _)⟩, Has.of hB F1 g1, Has.of hB F2 g2, ⟨K1.1, State.isArrayOf_alike al K1.2.1, K1.2.2, by rcases hcod with ⟨-, q, -⟩ | ⟨-, q, -⟩ <;> omega⟩, hcod, fun j hj => by
    have e : cs.getD j 0 = cs[j] := by simp [List.getD_eq_getElem?_getD, hj]
    show ¬ cs.getD j 0 < 0 ∧ ¬ 65535 < cs.getD j 0
    rw [e]; exact hb _ (List.getElem_mem _)⟩
  obtain ⟨v, B, X', ⟨⟨hv, hh⟩, hl, hk, hs⟩, st⟩ := Len.pays x t A cd cs.length (fun j => cs.getD j 0) z (tabLen_of (movedLen hZ hw)) hfr hlo m meth c P g ig mk _ X hg hsize hdg hW hn ⟨r1, r2, rfl, hx, sta_is al S, hz⟩
  exact ⟨v, B, X', ⟨[], ⟨hv, rfl, hh⟩, hl, hk, hs⟩, st⟩
end StrChars.Road
namespace StrChars
open Jvm Sem ClassFile Op Lib Jvm.Stand Jvm.Free.XT Jvm.Free.ALB Jvm.Free.JM Jvm.Free
open Jvm.Lib.Cold (StaticIs)
theorem lo8_inj {x y : Int32} (h0 : ¬ x < 0) (h1 : ¬ 255 < x) (k0 : ¬ y < 0) (k1 : ¬ 255 < y) (h : lo8 x = lo8 y) : x = y := by
  rw [← lo8_mask h0 h1, ← lo8_mask k0 k1, h]
end StrChars
namespace StrChars.Road
open Jvm Sem ClassFile Op Lib Jvm.Stand Jvm.Free Jvm.Free.XT
open Jvm.Lib.Cold (StaticIs)
/-- what backV says of its String, as the contracts of this text ask it: cs's low bytes, coder 0 -/
theorem codOf {cs : List Int32} {n : Nat} (hn : cs.length = n) (hb : ∀ c ∈ cs, ¬ 255 < c) : CodA cs 0 (Int32.ofNat n) ((cs.map lo8).map Value.int) := Or.inl ⟨rfl, by rw [hn], by simp [List.map_map, Function.comp_def], hb⟩
end StrChars.Road
end Jvm.Pilot.@@N@@
namespace Jvm.Pilot.@@N@@
open Jvm Jvm.ClassFile Sem Op Lib Jvm.Free Jvm.Stand Jvm.LawKit Jvm.RoadKit Bundle Jvm.Pilot.@@N@@.Jvm.D
/-- the run from S on comes to an end of which G holds -/
def Go (p : Program) (e : Env) (below : List Frame) (G : Outcome → State → Prop) (S : State) : Prop := ∃ s₂ o, Steps p.tables e below S s₂ ∧ s₂.status = .running ∧ Ended s₂ below o ∧ G o s₂
theorem Go.mono {p : Program} {e : Env} {below : List Frame} {G : Outcome → State → Prop} {S S' : State} (st : ∀ t, Steps p.tables e below S' t → Steps p.tables e below S t) (h : Go p e below G S') : Go p e below G S := by
  obtain ⟨a, b, c, d⟩ := h; exact ⟨a, b, st _ c, d⟩
/-- where a walk stands: the method's own facts, the heap, and an invariant I over the tables' state and the heap -/
def Wk (p : Program) (l : Launch) (e : Env) (R : Room) (m : MethodId) (args : Array Value) (below : List Frame) (meth : Method) (c : Code) (own : String) (bytes : ByteArray) (maxL : Nat) (Z : State) (I : State → Heap → Prop) (s' T : State) (locs : List Loc) (cells slots : Nat) (h : Heap) : Prop :=
  Stand p l e R s' m args below meth c T locs cells slots ∧ T.heap = h ∧ Z.Warmed39 s'.vm ∧ s'.vm.findClass own = some m.cls ∧ p.tables.exec = Jvm.exec ∧ c.code = bytes ∧ c.maxLocals = maxL ∧ I s' h
section Walk
variable {p : Program} {l : Launch} {e : Env} {R : Room} {m : MethodId} {args : Array Value} {below : List Frame} {meth : Method} {c : Code} {own : String} {bytes : ByteArray} {maxL : Nat} {Z : State} {I : State → Heap → Prop} {s' T : State} {locs : List Loc} {cells slots : Nat} {h : Heap} {G : Outcome → State → Prop} {pc : Nat} {Ls : Array Slot} {S : List Value} {a0 : Array Value}
theorem Wk.st (D : Wk p l e R m args below meth c own bytes maxL Z I s' T locs cells slots h) : Stand p l e R s' m args below meth c T locs cells slots := D.1
theorem Wk.eq (D : Wk p l e R m args below meth c own bytes maxL Z I s' T locs cells slots h) : T.heap = h := D.2.1
theorem Wk.wm (D : Wk p l e R m args below meth c own bytes maxL Z I s' T locs cells slots h) : Z.Warmed39 s'.vm := D.2.2.1
theorem Wk.ow (D : Wk p l e R m args below meth c own bytes maxL Z I s' T locs cells slots h) : s'.vm.findClass own = some m.cls := D.2.2.2.1
theorem Wk.ex (D : Wk p l e R m args below meth c own bytes maxL Z I s' T locs cells slots h) : p.tables.exec = Jvm.exec := D.2.2.2.2.1
theorem Wk.cb (D : Wk p l e R m args below meth c own bytes maxL Z I s' T locs cells slots h) : c.code = bytes := D.2.2.2.2.2.1
theorem Wk.ml (D : Wk p l e R m args below meth c own bytes maxL Z I s' T locs cells slots h) : c.maxLocals = maxL := D.2.2.2.2.2.2.1
theorem Wk.iv (D : Wk p l e R m args below meth c own bytes maxL Z I s' T locs cells slots h) : I s' h := D.2.2.2.2.2.2.2
theorem Wk.more (D : Wk p l e R m args below meth c own bytes maxL Z I s' T locs cells slots h) {k n : Nat} (hc : cells ≤ k) (hs : slots ≤ n) : Wk p l e R m args below meth c own bytes maxL Z I s' T locs k n h := ⟨D.1.more hc hs, D.2⟩
theorem Wk.mk' {T' : State} {locs' : List Loc} {cells' slots' : Nat} {h' : Heap} (D : Wk p l e R m args below meth c own bytes maxL Z I s' T locs cells slots h) (X : Stand p l e R s' m args below meth c T' locs' cells' slots') (q : T'.heap = h') (i : I s' h') : Wk p l e R m args below meth c own bytes maxL Z I s' T' locs' cells' slots' h' := ⟨X, q, D.wm, D.ow, D.ex, D.cb, D.ml, i⟩
theorem g_aloadN (D : Wk p l e R m args below meth c own bytes maxL Z I s' T locs cells slots h) (pc' : Nat) {k : Fin 4} {v : Value} (hd : decode bytes pc = .ok (.aload_n k, 1)) (hl : Ls[k.val]? = some (.val v)) (hv : v.isRef = true) (hp : pc + 1 = pc') (hr : Go p e below G (T.setTop (mkF m pc' Ls (v :: S)))) : Go p e below G (T.setTop (mkF m pc Ls S)) := by
  subst hp; exact Go.mono (fun t k => XS.aloadN D.st.here D.ex rfl (hb D.cb hd) hl hv k) hr
theorem g_aload (D : Wk p l e R m args below meth c own bytes maxL Z I s' T locs cells slots h) (pc' : Nat) {k : Nat} {v : Value} (hd : decode bytes pc = .ok (.aload k, 2)) (hl : Ls[k]? = some (.val v)) (hv : v.isRef = true) (hp : pc + 2 = pc') (hr : Go p e below G (T.setTop (mkF m pc' Ls (v :: S)))) : Go p e below G (T.setTop (mkF m pc Ls S)) := by
  subst hp; exact Go.mono (fun t k => XS.aload D.st.here D.ex rfl (hb D.cb hd) hl hv k) hr
theorem g_iloadN (D : Wk p l e R m args below meth c own bytes maxL Z I s' T locs cells slots h) (pc' : Nat) {k : Fin 4} {v : Int32} (hd : decode bytes pc = .ok (.iload_n k, 1)) (hl : Ls[k.val]? = some (.val (.int v))) (hp : pc + 1 = pc') (hr : Go p e below G (T.setTop (mkF m pc' Ls (.int v :: S)))) : Go p e below G (T.setTop (mkF m pc Ls S)) := by
  subst hp; exact Go.mono (fun t k => XS.iloadN D.st.here D.ex rfl (hb D.cb hd) hl k) hr
theorem g_iload (D : Wk p l e R m args below meth c own bytes maxL Z I s' T locs cells slots h) (pc' : Nat) {k : Nat} {v : Int32} (hd : decode bytes pc = .ok (.iload k, 2)) (hl : Ls[k]? = some (.val (.int v))) (hp : pc + 2 = pc') (hr : Go p e below G (T.setTop (mkF m pc' Ls (.int v :: S)))) : Go p e below G (T.setTop (mkF m pc Ls S)) := by
  subst hp; exact Go.mono (fun t k => XS.iload D.st.here D.ex rfl (hb D.cb hd) hl k) hr
theorem g_lloadN (D : Wk p l e R m args below meth c own bytes maxL Z I s' T locs cells slots h) (pc' : Nat) {k : Fin 4} {v : Int64} (hd : decode bytes pc = .ok (.lload_n k, 1)) (hl : Ls[k.val]? = some (.val (.long v))) (hp : pc + 1 = pc') (hr : Go p e below G (T.setTop (mkF m pc' Ls (.long v :: S)))) : Go p e below G (T.setTop (mkF m pc Ls S)) := by
  subst hp; exact Go.mono (fun t k => XS.lloadN D.st.here D.ex rfl (hb D.cb hd) hl k) hr
theorem g_lload (D : Wk p l e R m args below meth c own bytes maxL Z I s' T locs cells slots h) (pc' : Nat) {k : Nat} {v : Int64} (hd : decode bytes pc = .ok (.lload k, 2)) (hl : Ls[k]? = some (.val (.long v))) (hp : pc + 2 = pc') (hr : Go p e below G (T.setTop (mkF m pc' Ls (.long v :: S)))) : Go p e below G (T.setTop (mkF m pc Ls S)) := by
  subst hp; exact Go.mono (fun t k => XS.lload D.st.here D.ex rfl (hb D.cb hd) hl k) hr
theorem g_istoreN (D : Wk p l e R m args below meth c own bytes maxL Z I s' T locs cells slots h) (pc' : Nat) {k : Fin 4} {x : Int32} (l' : Array Slot) (hd : decode bytes pc = .ok (.istore_n k, 1)) (hl : storeLocals Ls k.val (.int x) = some l') (hp : pc + 1 = pc') (hr : Go p e below G (T.setTop (mkF m pc' l' S))) : Go p e below G (T.setTop (mkF m pc Ls (.int x :: S))) := by
  subst hp; exact Go.mono (fun t k => XS.istoreN D.st.here D.ex rfl (hb D.cb hd) rfl hl k) hr
theorem g_istore (D : Wk p l e R m args below meth c own bytes maxL Z I s' T locs cells slots h) (pc' : Nat) {k : Nat} {x : Int32} (l' : Array Slot) (hd : decode bytes pc = .ok (.istore k, 2)) (hl : storeLocals Ls k (.int x) = some l') (hp : pc + 2 = pc') (hr : Go p e below G (T.setTop (mkF m pc' l' S))) : Go p e below G (T.setTop (mkF m pc Ls (.int x :: S))) := by
  subst hp; exact Go.mono (fun t k => XS.istore D.st.here D.ex rfl (hb D.cb hd) rfl hl k) hr
theorem g_lstoreN (D : Wk p l e R m args below meth c own bytes maxL Z I s' T locs cells slots h) (pc' : Nat) {k : Fin 4} {x : Int64} (l' : Array Slot) (hd : decode bytes pc = .ok (.lstore_n k, 1)) (hl : storeLocals Ls k.val (.long x) = some l') (hp : pc + 1 = pc') (hr : Go p e below G (T.setTop (mkF m pc' l' S))) : Go p e below G (T.setTop (mkF m pc Ls (.long x :: S))) := by
  subst hp; exact Go.mono (fun t k => XS.lstoreN D.st.here D.ex rfl (hb D.cb hd) rfl hl k) hr
theorem g_lstore (D : Wk p l e R m args below meth c own bytes maxL Z I s' T locs cells slots h) (pc' : Nat) {k : Nat} {x : Int64} (l' : Array Slot) (hd : decode bytes pc = .ok (.lstore k, 2)) (hl : storeLocals Ls k (.long x) = some l') (hp : pc + 2 = pc') (hr : Go p e below G (T.setTop (mkF m pc' l' S))) : Go p e below G (T.setTop (mkF m pc Ls (.long x :: S))) := by
  subst hp; exact Go.mono (fun t k => XS.lstore D.st.here D.ex rfl (hb D.cb hd) rfl hl k) hr
theorem g_astoreN (D : Wk p l e R m args below meth c own bytes maxL Z I s' T locs cells slots h) (pc' : Nat) {k : Fin 4} {x : Value} (l' : Array Slot) (hd : decode bytes pc = .ok (.astore_n k, 1)) (hv : x.isRef = true) (hl : storeLocals Ls k.val x = some l') (hp : pc + 1 = pc') (hr : Go p e below G (T.setTop (mkF m pc' l' S))) : Go p e below G (T.setTop (mkF m pc Ls (x :: S))) := by
  subst hp; exact Go.mono (fun t k => XS.astoreN D.st.here D.ex rfl (hb D.cb hd) rfl hv hl k) hr
theorem g_astore (D : Wk p l e R m args below meth c own bytes maxL Z I s' T locs cells slots h) (pc' : Nat) {k : Nat} {x : Value} (l' : Array Slot) (hd : decode bytes pc = .ok (.astore k, 2)) (hv : x.isRef = true) (hl : storeLocals Ls k x = some l') (hp : pc + 2 = pc') (hr : Go p e below G (T.setTop (mkF m pc' l' S))) : Go p e below G (T.setTop (mkF m pc Ls (x :: S))) := by
  subst hp; exact Go.mono (fun t k => XS.astore D.st.here D.ex rfl (hb D.cb hd) rfl hv hl k) hr
theorem g_iconst (D : Wk p l e R m args below meth c own bytes maxL Z I s' T locs cells slots h) (pc' : Nat) {i : Int} (v : Int32) (hd : decode bytes pc = .ok (.iconst i, 1)) (hv : Int32.ofInt i = v) (hp : pc + 1 = pc') (hr : Go p e below G (T.setTop (mkF m pc' Ls (.int v :: S)))) : Go p e below G (T.setTop (mkF m pc Ls S)) := by
  subst hp; subst hv; exact Go.mono (fun t k => XS.iconst D.st.here D.ex rfl (hb D.cb hd) k) hr
theorem g_bipush (D : Wk p l e R m args below meth c own bytes maxL Z I s' T locs cells slots h) (pc' : Nat) {i : Int} (v : Int32) (hd : decode bytes pc = .ok (.bipush i, 2)) (hv : (Int8.ofInt i).toInt32 = v) (hp : pc + 2 = pc') (hr : Go p e below G (T.setTop (mkF m pc' Ls (.int v :: S)))) : Go p e below G (T.setTop (mkF m pc Ls S)) := by
  subst hp; subst hv; exact Go.mono (fun t k => XS.bipush D.st.here D.ex rfl (hb D.cb hd) k) hr
theorem g_sipush (D : Wk p l e R m args below meth c own bytes maxL Z I s' T locs cells slots h) (pc' : Nat) {i : Int} (v : Int32) (hd : decode bytes pc = .ok (.sipush i, 3)) (hv : (Int16.ofInt i).toInt32 = v) (hp : pc + 3 = pc') (hr : Go p e below G (T.setTop (mkF m pc' Ls (.int v :: S)))) : Go p e below G (T.setTop (mkF m pc Ls S)) := by
  subst hp; subst hv; exact Go.mono (fun t k => XS.sipush D.st.here D.ex rfl (hb D.cb hd) k) hr
theorem g_lconst (D : Wk p l e R m args below meth c own bytes maxL Z I s' T locs cells slots h) (pc' : Nat) {i : Fin 2} (v : Int64) (hd : decode bytes pc = .ok (.lconst i, 1)) (hv : Int64.ofNat i = v) (hp : pc + 1 = pc') (hr : Go p e below G (T.setTop (mkF m pc' Ls (.long v :: S)))) : Go p e below G (T.setTop (mkF m pc Ls S)) := by
  subst hp; subst hv; exact Go.mono (fun t k => XS.lconst D.st.here D.ex rfl (hb D.cb hd) k) hr
theorem g_aconst (D : Wk p l e R m args below meth c own bytes maxL Z I s' T locs cells slots h) (pc' : Nat)  (hd : decode bytes pc = .ok (.aconst_null, 1)) (hp : pc + 1 = pc') (hr : Go p e below G (T.setTop (mkF m pc' Ls (.null :: S)))) : Go p e below G (T.setTop (mkF m pc Ls S)) := by
  subst hp; exact Go.mono (fun t k => XS.aconstNull D.st.here D.ex rfl (hb D.cb hd)  k) hr
theorem g_iadd (D : Wk p l e R m args below meth c own bytes maxL Z I s' T locs cells slots h) (pc' : Nat) {x y : Int32} (hd : decode bytes pc = .ok (.iadd, 1)) (hp : pc + 1 = pc') (hr : Go p e below G (T.setTop (mkF m pc' Ls (.int (x + y) :: S)))) : Go p e below G (T.setTop (mkF m pc Ls (.int y :: .int x :: S))) := by
  subst hp; exact Go.mono (fun t k => XS.iadd D.st.here D.ex rfl (hb D.cb hd) rfl k) hr
theorem g_isub (D : Wk p l e R m args below meth c own bytes maxL Z I s' T locs cells slots h) (pc' : Nat) {x y : Int32} (hd : decode bytes pc = .ok (.isub, 1)) (hp : pc + 1 = pc') (hr : Go p e below G (T.setTop (mkF m pc' Ls (.int (x - y) :: S)))) : Go p e below G (T.setTop (mkF m pc Ls (.int y :: .int x :: S))) := by
  subst hp; exact Go.mono (fun t k => XS.isub D.st.here D.ex rfl (hb D.cb hd) rfl k) hr
theorem g_imul (D : Wk p l e R m args below meth c own bytes maxL Z I s' T locs cells slots h) (pc' : Nat) {x y : Int32} (hd : decode bytes pc = .ok (.imul, 1)) (hp : pc + 1 = pc') (hr : Go p e below G (T.setTop (mkF m pc' Ls (.int (x * y) :: S)))) : Go p e below G (T.setTop (mkF m pc Ls (.int y :: .int x :: S))) := by
  subst hp; exact Go.mono (fun t k => XS.imul D.st.here D.ex rfl (hb D.cb hd) rfl k) hr
theorem g_iand (D : Wk p l e R m args below meth c own bytes maxL Z I s' T locs cells slots h) (pc' : Nat) {x y : Int32} (hd : decode bytes pc = .ok (.iand, 1)) (hp : pc + 1 = pc') (hr : Go p e below G (T.setTop (mkF m pc' Ls (.int (x &&& y) :: S)))) : Go p e below G (T.setTop (mkF m pc Ls (.int y :: .int x :: S))) := by
  subst hp; exact Go.mono (fun t k => XS.iand D.st.here D.ex rfl (hb D.cb hd) rfl k) hr
theorem g_ior (D : Wk p l e R m args below meth c own bytes maxL Z I s' T locs cells slots h) (pc' : Nat) {x y : Int32} (hd : decode bytes pc = .ok (.ior, 1)) (hp : pc + 1 = pc') (hr : Go p e below G (T.setTop (mkF m pc' Ls (.int (x ||| y) :: S)))) : Go p e below G (T.setTop (mkF m pc Ls (.int y :: .int x :: S))) := by
  subst hp; exact Go.mono (fun t k => XS.ior D.st.here D.ex rfl (hb D.cb hd) rfl k) hr
theorem g_ixor (D : Wk p l e R m args below meth c own bytes maxL Z I s' T locs cells slots h) (pc' : Nat) {x y : Int32} (hd : decode bytes pc = .ok (.ixor, 1)) (hp : pc + 1 = pc') (hr : Go p e below G (T.setTop (mkF m pc' Ls (.int (x ^^^ y) :: S)))) : Go p e below G (T.setTop (mkF m pc Ls (.int y :: .int x :: S))) := by
  subst hp; exact Go.mono (fun t k => XS.ixor D.st.here D.ex rfl (hb D.cb hd) rfl k) hr
theorem g_ishl (D : Wk p l e R m args below meth c own bytes maxL Z I s' T locs cells slots h) (pc' : Nat) {x y : Int32} (hd : decode bytes pc = .ok (.ishl, 1)) (hp : pc + 1 = pc') (hr : Go p e below G (T.setTop (mkF m pc' Ls (.int (x <<< (y &&& 31)) :: S)))) : Go p e below G (T.setTop (mkF m pc Ls (.int y :: .int x :: S))) := by
  subst hp; exact Go.mono (fun t k => XS.ishl D.st.here D.ex rfl (hb D.cb hd) rfl k) hr
theorem g_ishr (D : Wk p l e R m args below meth c own bytes maxL Z I s' T locs cells slots h) (pc' : Nat) {x y : Int32} (hd : decode bytes pc = .ok (.ishr, 1)) (hp : pc + 1 = pc') (hr : Go p e below G (T.setTop (mkF m pc' Ls (.int (x >>> (y &&& 31)) :: S)))) : Go p e below G (T.setTop (mkF m pc Ls (.int y :: .int x :: S))) := by
  subst hp; exact Go.mono (fun t k => XS.ishr D.st.here D.ex rfl (hb D.cb hd) rfl k) hr
theorem g_iushr (D : Wk p l e R m args below meth c own bytes maxL Z I s' T locs cells slots h) (pc' : Nat) {x y : Int32} (hd : decode bytes pc = .ok (.iushr, 1)) (hp : pc + 1 = pc') (hr : Go p e below G (T.setTop (mkF m pc' Ls (.int (XT.ushr x y) :: S)))) : Go p e below G (T.setTop (mkF m pc Ls (.int y :: .int x :: S))) := by
  subst hp; exact Go.mono (fun t k => XT.iushr D.st.here D.ex rfl (hb D.cb hd) rfl k) hr
theorem g_ladd (D : Wk p l e R m args below meth c own bytes maxL Z I s' T locs cells slots h) (pc' : Nat) {x y : Int64} (hd : decode bytes pc = .ok (.ladd, 1)) (hp : pc + 1 = pc') (hr : Go p e below G (T.setTop (mkF m pc' Ls (.long (x + y) :: S)))) : Go p e below G (T.setTop (mkF m pc Ls (.long y :: .long x :: S))) := by
  subst hp; exact Go.mono (fun t k => XS.ladd D.st.here D.ex rfl (hb D.cb hd) rfl k) hr
theorem g_lsub (D : Wk p l e R m args below meth c own bytes maxL Z I s' T locs cells slots h) (pc' : Nat) {x y : Int64} (hd : decode bytes pc = .ok (.lsub, 1)) (hp : pc + 1 = pc') (hr : Go p e below G (T.setTop (mkF m pc' Ls (.long (x - y) :: S)))) : Go p e below G (T.setTop (mkF m pc Ls (.long y :: .long x :: S))) := by
  subst hp; exact Go.mono (fun t k => XS.lsub D.st.here D.ex rfl (hb D.cb hd) rfl k) hr
theorem g_lmul (D : Wk p l e R m args below meth c own bytes maxL Z I s' T locs cells slots h) (pc' : Nat) {x y : Int64} (hd : decode bytes pc = .ok (.lmul, 1)) (hp : pc + 1 = pc') (hr : Go p e below G (T.setTop (mkF m pc' Ls (.long (x * y) :: S)))) : Go p e below G (T.setTop (mkF m pc Ls (.long y :: .long x :: S))) := by
  subst hp; exact Go.mono (fun t k => XS.lmul D.st.here D.ex rfl (hb D.cb hd) rfl k) hr
theorem g_land (D : Wk p l e R m args below meth c own bytes maxL Z I s' T locs cells slots h) (pc' : Nat) {x y : Int64} (hd : decode bytes pc = .ok (.land, 1)) (hp : pc + 1 = pc') (hr : Go p e below G (T.setTop (mkF m pc' Ls (.long (x &&& y) :: S)))) : Go p e below G (T.setTop (mkF m pc Ls (.long y :: .long x :: S))) := by
  subst hp; exact Go.mono (fun t k => XS.land D.st.here D.ex rfl (hb D.cb hd) rfl k) hr
theorem g_lor (D : Wk p l e R m args below meth c own bytes maxL Z I s' T locs cells slots h) (pc' : Nat) {x y : Int64} (hd : decode bytes pc = .ok (.lor, 1)) (hp : pc + 1 = pc') (hr : Go p e below G (T.setTop (mkF m pc' Ls (.long (x ||| y) :: S)))) : Go p e below G (T.setTop (mkF m pc Ls (.long y :: .long x :: S))) := by
  subst hp; exact Go.mono (fun t k => XS.lor D.st.here D.ex rfl (hb D.cb hd) rfl k) hr
theorem g_lxor (D : Wk p l e R m args below meth c own bytes maxL Z I s' T locs cells slots h) (pc' : Nat) {x y : Int64} (hd : decode bytes pc = .ok (.lxor, 1)) (hp : pc + 1 = pc') (hr : Go p e below G (T.setTop (mkF m pc' Ls (.long (x ^^^ y) :: S)))) : Go p e below G (T.setTop (mkF m pc Ls (.long y :: .long x :: S))) := by
  subst hp; exact Go.mono (fun t k => XS.lxor D.st.here D.ex rfl (hb D.cb hd) rfl k) hr
theorem g_lushr (D : Wk p l e R m args below meth c own bytes maxL Z I s' T locs cells slots h) (pc' : Nat) {x : Int64} {y : Int32} (hd : decode bytes pc = .ok (.lushr, 1)) (hp : pc + 1 = pc') (hr : Go p e below G (T.setTop (mkF m pc' Ls (.long (XT.ushrL x y) :: S)))) : Go p e below G (T.setTop (mkF m pc Ls (.int y :: .long x :: S))) := by
  subst hp; exact Go.mono (fun t k => XT.lushr D.st.here D.ex rfl (hb D.cb hd) rfl k) hr
theorem g_lshl (D : Wk p l e R m args below meth c own bytes maxL Z I s' T locs cells slots h) (pc' : Nat) {x : Int64} {y : Int32} (hd : decode bytes pc = .ok (.lshl, 1)) (hp : pc + 1 = pc') (hr : Go p e below G (T.setTop (mkF m pc' Ls (.long (x <<< (y.toInt64 &&& 63)) :: S)))) : Go p e below G (T.setTop (mkF m pc Ls (.int y :: .long x :: S))) := by
  subst hp; exact Go.mono (fun t k => XT.lshl D.st.here D.ex rfl (hb D.cb hd) rfl k) hr
theorem g_lcmp (D : Wk p l e R m args below meth c own bytes maxL Z I s' T locs cells slots h) (pc' : Nat) {x y : Int64} (hd : decode bytes pc = .ok (.lcmp, 1)) (hp : pc + 1 = pc') (hr : Go p e below G (T.setTop (mkF m pc' Ls (.int (XT.cmpL x y) :: S)))) : Go p e below G (T.setTop (mkF m pc Ls (.long y :: .long x :: S))) := by
  subst hp; exact Go.mono (fun t k => XT.lcmp D.st.here D.ex rfl (hb D.cb hd) rfl k) hr
theorem g_idiv (D : Wk p l e R m args below meth c own bytes maxL Z I s' T locs cells slots h) (pc' : Nat) {x y : Int32} (hd : decode bytes pc = .ok (.idiv, 1)) (hy : y ≠ 0) (hp : pc + 1 = pc') (hr : Go p e below G (T.setTop (mkF m pc' Ls (.int (x / y) :: S)))) : Go p e below G (T.setTop (mkF m pc Ls (.int y :: .int x :: S))) := by
  subst hp; exact Go.mono (fun t k => XS.idiv D.st.here D.ex rfl (hb D.cb hd) rfl hy k) hr
theorem g_irem (D : Wk p l e R m args below meth c own bytes maxL Z I s' T locs cells slots h) (pc' : Nat) {x y : Int32} (hd : decode bytes pc = .ok (.irem, 1)) (hy : y ≠ 0) (hp : pc + 1 = pc') (hr : Go p e below G (T.setTop (mkF m pc' Ls (.int (x % y) :: S)))) : Go p e below G (T.setTop (mkF m pc Ls (.int y :: .int x :: S))) := by
  subst hp; exact Go.mono (fun t k => iremM D.st D.ex rfl (hb D.cb hd) rfl hy k) hr
theorem g_ineg (D : Wk p l e R m args below meth c own bytes maxL Z I s' T locs cells slots h) (pc' : Nat) {x : Int32} (hd : decode bytes pc = .ok (.ineg, 1)) (hp : pc + 1 = pc') (hr : Go p e below G (T.setTop (mkF m pc' Ls (.int (-x) :: S)))) : Go p e below G (T.setTop (mkF m pc Ls (.int x :: S))) := by
  subst hp; exact Go.mono (fun t k => XS.ineg D.st.here D.ex rfl (hb D.cb hd) rfl k) hr
theorem g_i2l (D : Wk p l e R m args below meth c own bytes maxL Z I s' T locs cells slots h) (pc' : Nat) {x : Int32} (hd : decode bytes pc = .ok (.i2l, 1)) (hp : pc + 1 = pc') (hr : Go p e below G (T.setTop (mkF m pc' Ls (.long (x.toInt64) :: S)))) : Go p e below G (T.setTop (mkF m pc Ls (.int x :: S))) := by
  subst hp; exact Go.mono (fun t k => XS.i2l D.st.here D.ex rfl (hb D.cb hd) rfl k) hr
theorem g_l2i (D : Wk p l e R m args below meth c own bytes maxL Z I s' T locs cells slots h) (pc' : Nat) {x : Int64} (hd : decode bytes pc = .ok (.l2i, 1)) (hp : pc + 1 = pc') (hr : Go p e below G (T.setTop (mkF m pc' Ls (.int (x.toInt32) :: S)))) : Go p e below G (T.setTop (mkF m pc Ls (.long x :: S))) := by
  subst hp; exact Go.mono (fun t k => XS.l2i D.st.here D.ex rfl (hb D.cb hd) rfl k) hr
theorem g_i2b (D : Wk p l e R m args below meth c own bytes maxL Z I s' T locs cells slots h) (pc' : Nat) {x : Int32} (hd : decode bytes pc = .ok (.i2b, 1)) (hp : pc + 1 = pc') (hr : Go p e below G (T.setTop (mkF m pc' Ls (.int (x.toInt8.toInt32) :: S)))) : Go p e below G (T.setTop (mkF m pc Ls (.int x :: S))) := by
  subst hp; exact Go.mono (fun t k => XS.i2b D.st.here D.ex rfl (hb D.cb hd) rfl k) hr
theorem g_i2c (D : Wk p l e R m args below meth c own bytes maxL Z I s' T locs cells slots h) (pc' : Nat) {x : Int32} (hd : decode bytes pc = .ok (.i2c, 1)) (hp : pc + 1 = pc') (hr : Go p e below G (T.setTop (mkF m pc' Ls (.int (x.toUInt32.toUInt16.toUInt32.toInt32) :: S)))) : Go p e below G (T.setTop (mkF m pc Ls (.int x :: S))) := by
  subst hp; exact Go.mono (fun t k => XS.i2c D.st.here D.ex rfl (hb D.cb hd) rfl k) hr
theorem g_i2s (D : Wk p l e R m args below meth c own bytes maxL Z I s' T locs cells slots h) (pc' : Nat) {x : Int32} (hd : decode bytes pc = .ok (.i2s, 1)) (hp : pc + 1 = pc') (hr : Go p e below G (T.setTop (mkF m pc' Ls (.int (x.toInt16.toInt32) :: S)))) : Go p e below G (T.setTop (mkF m pc Ls (.int x :: S))) := by
  subst hp; exact Go.mono (fun t k => XS.i2s D.st.here D.ex rfl (hb D.cb hd) rfl k) hr
theorem g_lneg (D : Wk p l e R m args below meth c own bytes maxL Z I s' T locs cells slots h) (pc' : Nat) {x : Int64} (hd : decode bytes pc = .ok (.lneg, 1)) (hp : pc + 1 = pc') (hr : Go p e below G (T.setTop (mkF m pc' Ls (.long (-x) :: S)))) : Go p e below G (T.setTop (mkF m pc Ls (.long x :: S))) := by
  subst hp; exact Go.mono (fun t k => XS.lneg D.st.here D.ex rfl (hb D.cb hd) rfl k) hr
theorem g_dup (D : Wk p l e R m args below meth c own bytes maxL Z I s' T locs cells slots h) (pc' : Nat) {x : Value} (hd : decode bytes pc = .ok (.dup, 1)) (hc : x.category = 1) (hp : pc + 1 = pc') (hr : Go p e below G (T.setTop (mkF m pc' Ls (x :: x :: S)))) : Go p e below G (T.setTop (mkF m pc Ls (x :: S))) := by
  subst hp; exact Go.mono (fun t k => XS.dup D.st.here D.ex rfl (hb D.cb hd) rfl hc k) hr
theorem g_pop (D : Wk p l e R m args below meth c own bytes maxL Z I s' T locs cells slots h) (pc' : Nat) {x : Value} (hd : decode bytes pc = .ok (.pop, 1)) (hc : x.category = 1) (hp : pc + 1 = pc') (hr : Go p e below G (T.setTop (mkF m pc' Ls S))) : Go p e below G (T.setTop (mkF m pc Ls (x :: S))) := by
  subst hp; exact Go.mono (fun t k => XS.pop D.st.here D.ex rfl (hb D.cb hd) rfl hc k) hr
theorem g_dupX1 (D : Wk p l e R m args below meth c own bytes maxL Z I s' T locs cells slots h) (pc' : Nat) {x y : Value} (hd : decode bytes pc = .ok (.dup_x1, 1)) (hc : x.category = 1) (hc' : y.category = 1) (hp : pc + 1 = pc') (hr : Go p e below G (T.setTop (mkF m pc' Ls (x :: y :: x :: S)))) : Go p e below G (T.setTop (mkF m pc Ls (x :: y :: S))) := by
  subst hp; exact Go.mono (fun t k => XS.dupX1 D.st.here D.ex rfl (hb D.cb hd) rfl hc hc' k) hr
theorem g_dup2 (D : Wk p l e R m args below meth c own bytes maxL Z I s' T locs cells slots h) (pc' : Nat) {x y : Value} (hd : decode bytes pc = .ok (.dup2, 1)) (hc : x.category = 1) (hc' : y.category = 1) (hp : pc + 1 = pc') (hr : Go p e below G (T.setTop (mkF m pc' Ls (x :: y :: x :: y :: S)))) : Go p e below G (T.setTop (mkF m pc Ls (x :: y :: S))) := by
  subst hp; exact Go.mono (fun t k => XT.dup2 D.st.here D.ex rfl (hb D.cb hd) rfl hc hc' k) hr
theorem g_dup2L (D : Wk p l e R m args below meth c own bytes maxL Z I s' T locs cells slots h) (pc' : Nat) {x : Int64} (hd : decode bytes pc = .ok (.dup2, 1)) (hp : pc + 1 = pc') (hr : Go p e below G (T.setTop (mkF m pc' Ls (.long x :: .long x :: S)))) : Go p e below G (T.setTop (mkF m pc Ls (.long x :: S))) := by
  subst hp; exact Go.mono (fun t k => XT.dup2L D.st.here D.ex rfl (hb D.cb hd) rfl k) hr
theorem g_iinc (D : Wk p l e R m args below meth c own bytes maxL Z I s' T locs cells slots h) (pc' : Nat) {k : Nat} {cst : Int} {x : Int32} (v : Int32) (l' : Array Slot) (hd : decode bytes pc = .ok (.iinc k cst, 3)) (hv : Int32.ofInt cst = v) (hl : Ls[k]? = some (.val (.int x))) (hl' : storeLocals Ls k (.int (x + v)) = some l') (hp : pc + 3 = pc') (hr : Go p e below G (T.setTop (mkF m pc' l' S))) : Go p e below G (T.setTop (mkF m pc Ls S)) := by
  subst hp; subst hv; exact Go.mono (fun t k => XS.iinc D.st.here D.ex rfl (hb D.cb hd) hl hl' k) hr
theorem g_goto (D : Wk p l e R m args below meth c own bytes maxL Z I s' T locs cells slots h) (pc' : Nat) {o : Int} (hd : decode bytes pc = .ok (.goto o, 3)) (ho : 0 ≤ (pc : Int) + o) (hp : ((pc : Int) + o).toNat = pc') (hr : Go p e below G (T.setTop (mkF m pc' Ls S))) : Go p e below G (T.setTop (mkF m pc Ls S)) :=
  Go.mono (fun t k => XS.goto D.st.here D.ex rfl rfl (hb D.cb hd) ho hp k) hr
theorem g_icmpY (D : Wk p l e R m args below meth c own bytes maxL Z I s' T locs cells slots h) (pc' : Nat) {cd : ClassFile.Cond} {x y : Int32} {o : Int} (hd : decode bytes pc = .ok (.if_icmp cd o, 3)) (hc : if_icmp.holds cd x y = true) (ho : 0 ≤ (pc : Int) + o) (hp : ((pc : Int) + o).toNat = pc') (hr : Go p e below G (T.setTop (mkF m pc' Ls S))) : Go p e below G (T.setTop (mkF m pc Ls (.int y :: .int x :: S))) :=
  Go.mono (fun t k => XS.icmpYes D.st.here D.ex rfl rfl (hb D.cb hd) rfl hc ho hp k) hr
theorem g_icmpN (D : Wk p l e R m args below meth c own bytes maxL Z I s' T locs cells slots h) (pc' : Nat) {cd : ClassFile.Cond} {x y : Int32} {o : Int} (hd : decode bytes pc = .ok (.if_icmp cd o, 3)) (hc : if_icmp.holds cd x y = false) (hp : pc + 3 = pc') (hr : Go p e below G (T.setTop (mkF m pc' Ls S))) : Go p e below G (T.setTop (mkF m pc Ls (.int y :: .int x :: S))) := by
  subst hp; exact Go.mono (fun t k => XS.icmpNo D.st.here D.ex rfl (hb D.cb hd) rfl hc k) hr
theorem g_ifY (D : Wk p l e R m args below meth c own bytes maxL Z I s' T locs cells slots h) (pc' : Nat) {cd : ClassFile.Cond} {x : Int32} {o : Int} (hd : decode bytes pc = .ok (.ifCond cd o, 3)) (hc : if_icmp.holds cd x 0 = true) (ho : 0 ≤ (pc : Int) + o) (hp : ((pc : Int) + o).toNat = pc') (hr : Go p e below G (T.setTop (mkF m pc' Ls S))) : Go p e below G (T.setTop (mkF m pc Ls (.int x :: S))) :=
  Go.mono (fun t k => XS.ifYes D.st.here D.ex rfl rfl (hb D.cb hd) rfl ((if0 _ _).trans hc) ho hp k) hr
theorem g_ifN (D : Wk p l e R m args below meth c own bytes maxL Z I s' T locs cells slots h) (pc' : Nat) {cd : ClassFile.Cond} {x : Int32} {o : Int} (hd : decode bytes pc = .ok (.ifCond cd o, 3)) (hc : if_icmp.holds cd x 0 = false) (hp : pc + 3 = pc') (hr : Go p e below G (T.setTop (mkF m pc' Ls S))) : Go p e below G (T.setTop (mkF m pc Ls (.int x :: S))) := by
  subst hp; exact Go.mono (fun t k => XS.ifNo D.st.here D.ex rfl (hb D.cb hd) rfl ((if0 _ _).trans hc) k) hr
theorem g_nullY (D : Wk p l e R m args below meth c own bytes maxL Z I s' T locs cells slots h) (pc' : Nat) {o : Int} (hd : decode bytes pc = .ok (.ifnull o, 3)) (ho : 0 ≤ (pc : Int) + o) (hp : ((pc : Int) + o).toNat = pc') (hr : Go p e below G (T.setTop (mkF m pc' Ls S))) : Go p e below G (T.setTop (mkF m pc Ls (.null :: S))) :=
  Go.mono (fun t k => XS.ifnullYes D.st.here D.ex rfl rfl (hb D.cb hd) rfl ho hp k) hr
theorem g_nullN (D : Wk p l e R m args below meth c own bytes maxL Z I s' T locs cells slots h) (pc' : Nat) {o : Int} {b : Addr} (hd : decode bytes pc = .ok (.ifnull o, 3)) (hp : pc + 3 = pc') (hr : Go p e below G (T.setTop (mkF m pc' Ls S))) : Go p e below G (T.setTop (mkF m pc Ls (.ref b :: S))) := by
  subst hp; exact Go.mono (fun t k => XS.ifnullNo D.st.here D.ex rfl (hb D.cb hd) rfl k) hr
theorem g_nnY (D : Wk p l e R m args below meth c own bytes maxL Z I s' T locs cells slots h) (pc' : Nat) {o : Int} {b : Addr} (hd : decode bytes pc = .ok (.ifnonnull o, 3)) (ho : 0 ≤ (pc : Int) + o) (hp : ((pc : Int) + o).toNat = pc') (hr : Go p e below G (T.setTop (mkF m pc' Ls S))) : Go p e below G (T.setTop (mkF m pc Ls (.ref b :: S))) :=
  Go.mono (fun t k => XS.ifnonnullYes D.st.here D.ex rfl rfl (hb D.cb hd) rfl ho hp k) hr
theorem g_nnN (D : Wk p l e R m args below meth c own bytes maxL Z I s' T locs cells slots h) (pc' : Nat) {o : Int} (hd : decode bytes pc = .ok (.ifnonnull o, 3)) (hp : pc + 3 = pc') (hr : Go p e below G (T.setTop (mkF m pc' Ls S))) : Go p e below G (T.setTop (mkF m pc Ls (.null :: S))) := by
  subst hp; exact Go.mono (fun t k => XS.ifnonnullNo D.st.here D.ex rfl (hb D.cb hd) rfl k) hr
theorem g_acmp (D : Wk p l e R m args below meth c own bytes maxL Z I s' T locs cells slots h) (pc' : Nat) {cd : ACond} {x y : Value} {o : Int} (hd : decode bytes pc = .ok (.if_acmp cd o, 3)) (h1 : x.isRef = true) (h2 : y.isRef = true) {same : Bool} (hq : decide (x = y) = same) (ho : 0 ≤ (pc : Int) + o) (hp : pc' = if acV cd same = true then ((pc : Int) + o).toNat else pc + 3) (hr : Go p e below G (T.setTop (mkF m pc' Ls S))) : Go p e below G (T.setTop (mkF m pc Ls (y :: x :: S))) :=
  Go.mono (fun t k => Jvm.RoadKit.acmp (g := mkF m pc Ls (y :: x :: S)) D.st D.ex rfl h1 h2 rfl (hb D.cb hd) rfl hq ho hp k) hr
theorem g_ldcI (D : Wk p l e R m args below meth c own bytes maxL Z I s' T locs cells slots h) (pc' : Nat) {index : Nat} {v : Int32} (w : (Cond.constant own index v).before a0 Z = true) (hd : decode bytes pc = .ok (.ldc index, 2)) (hp : pc + 2 = pc') (hr : Go p e below G (T.setTop (mkF m pc' Ls (.int v :: S)))) : Go p e below G (T.setTop (mkF m pc Ls S)) := by
  subst hp; exact Go.mono (fun t k => Jvm.Stand.ldcI D.st D.ex D.ow (mv D.wm w) rfl (hb D.cb hd) k) hr
theorem g_ldcWI (D : Wk p l e R m args below meth c own bytes maxL Z I s' T locs cells slots h) (pc' : Nat) {index : Nat} {v : Int32} (w : (Cond.constant own index v).before a0 Z = true) (hd : decode bytes pc = .ok (.ldc_w index, 3)) (hp : pc + 3 = pc') (hr : Go p e below G (T.setTop (mkF m pc' Ls (.int v :: S)))) : Go p e below G (T.setTop (mkF m pc Ls S)) := by
  subst hp; exact Go.mono (fun t k => Jvm.Stand.ldcWI D.st D.ex D.ow (mv D.wm w) rfl (hb D.cb hd) k) hr
theorem g_ldc2J (D : Wk p l e R m args below meth c own bytes maxL Z I s' T locs cells slots h) (pc' : Nat) {index : Nat} {v : Int64} (w : (Cond.constantLong own index v).before a0 Z = true) (hd : decode bytes pc = .ok (.ldc2_w index, 3)) (hp : pc + 3 = pc') (hr : Go p e below G (T.setTop (mkF m pc' Ls (.long v :: S)))) : Go p e below G (T.setTop (mkF m pc Ls S)) := by
  subst hp; exact Go.mono (fun t k => Jvm.Stand.ldc2J D.st D.ex D.ow (mv D.wm w) rfl (hb D.cb hd) k) hr
theorem g_lswHit (D : Wk p l e R m args below meth c own bytes maxL Z I s' T locs cells slots h) (pc' : Nat) {k : Int32} {dflt : Int} {ps : Array (Int × Int)} {len : Nat} {a o : Int} (hd : decode bytes pc = .ok (.lookupswitch dflt ps, len)) (hso : (ps.toList.zip (ps.toList.drop 1)).all (fun (a, next) => a.1 < next.1) = true) (hf : ps.find? (·.1 == k.toInt) = some (a, o)) (ho : 0 ≤ (pc : Int) + o) (hp : ((pc : Int) + o).toNat = pc') (hr : Go p e below G (T.setTop (mkF m pc' Ls S))) : Go p e below G (T.setTop (mkF m pc Ls (.int k :: S))) := by
  subst hp; exact Go.mono (fun t q => D.st.lookupswitchHit D.ex (g := mkF m pc Ls (.int k :: S)) rfl (k := k) (rest := S) rfl (hb D.cb hd) hso hf ho _ q) hr
theorem g_lswMiss (D : Wk p l e R m args below meth c own bytes maxL Z I s' T locs cells slots h) (pc' : Nat) {k : Int32} {dflt : Int} {ps : Array (Int × Int)} {len : Nat} (hd : decode bytes pc = .ok (.lookupswitch dflt ps, len)) (hso : (ps.toList.zip (ps.toList.drop 1)).all (fun (a, next) => a.1 < next.1) = true) (hf : ps.find? (·.1 == k.toInt) = none) (ho : 0 ≤ (pc : Int) + dflt) (hp : ((pc : Int) + dflt).toNat = pc') (hr : Go p e below G (T.setTop (mkF m pc' Ls S))) : Go p e below G (T.setTop (mkF m pc Ls (.int k :: S))) := by
  subst hp; exact Go.mono (fun t q => D.st.lookupswitchMiss D.ex (g := mkF m pc Ls (.int k :: S)) rfl (k := k) (rest := S) rfl (hb D.cb hd) hso hf ho _ q) hr
theorem g_tswIn (D : Wk p l e R m args below meth c own bytes maxL Z I s' T locs cells slots h) (pc' : Nat) {i : Int32} {dflt low high : Int} {offs : Array Int} {len : Nat} {o : Int} (hd : decode bytes pc = .ok (.tableswitch dflt low high offs, len)) (hin : ¬ (i.toInt < low ∨ i.toInt > high)) (hoff : offs[(i.toInt - low).toNat]? = some o) (ho : 0 ≤ (pc : Int) + o) (hp : ((pc : Int) + o).toNat = pc') (hr : Go p e below G (T.setTop (mkF m pc' Ls S))) : Go p e below G (T.setTop (mkF m pc Ls (.int i :: S))) :=
  Go.mono (fun t k => XS.tswIn D.st.here D.ex rfl rfl (hb D.cb hd) rfl hin hoff ho hp k) hr
theorem g_getF (D : Wk p l e R m args below meth c own bytes maxL Z I s' T locs cells slots h) (pc' : Nat) {R0 O n d : String} {index : Nat} (w : (Cond.fieldLink own index R0 n d).before a0 Z = true) (via : Via Z R0 O n d) {a : Addr} {v : Value} (F : Fld Z h a O n d v) (hd : decode bytes pc = .ok (.getfield index, 3)) (hp : pc + 3 = pc')
    (hr : ∀ T', Wk p l e R m args below meth c own bytes maxL Z I s' T' locs cells slots h → Go p e below G (T'.setTop (mkF m pc' Ls (v :: S)))) : Go p e below G (T.setTop (mkF m pc Ls (.ref a :: S))) := by
  subst hp
  obtain ⟨T', X', e', st⟩ := getF D.st D.ex D.wm D.ow (host := "") (Or.inl w) via D.eq F (g := mkF m pc Ls (.ref a :: S)) rfl rfl (hb D.cb hd)
  exact Go.mono st (hr T' (D.mk' X' e' D.iv))
theorem g_getS (D : Wk p l e R m args below meth c own bytes maxL Z I s' T locs cells slots h) (pc' : Nat) {R0 O n d : String} {index : Nat} (w : (Cond.fieldLink own index R0 n d).before a0 Z = true) (via : Via Z R0 O n d) {v : Value} (F : Sta Z h O n d v) (hd : decode bytes pc = .ok (.getstatic index, 3)) (hp : pc + 3 = pc')
    (hr : ∀ T', Wk p l e R m args below meth c own bytes maxL Z I s' T' locs cells slots h → Go p e below G (T'.setTop (mkF m pc' Ls (v :: S)))) : Go p e below G (T.setTop (mkF m pc Ls S)) := by
  subst hp
  obtain ⟨T', X', e', st⟩ := getS (host := "") D.st D.ex D.wm D.ow w via D.eq F (g := mkF m pc Ls S) rfl (hb D.cb hd)
  exact Go.mono st (hr T' (D.mk' X' e' D.iv))
theorem g_putF (D : Wk p l e R m args below meth c own bytes maxL Z I s' T locs cells slots h) (pc' : Nat) {R0 O n d C : String} {index kk : Nat} {ty : FieldType} (w : (Cond.fieldLink own index R0 n d).before a0 Z = true) (via : Via Z R0 O n d) {a : Addr} {v old : Value} (F : Fld Z h a O n d old) (E : Exa Z h a C)
    (L : (Cond.lays C O n d).before a0 Z = true ∨ ((Cond.laysFinal C O n d).before a0 Z = true ∧ own = O ∧ meth.name = "<init>")) (wi : (Cond.instantiable C kk).before a0 Z = true) (hty : parseFieldDescriptor d = some ty) (hn : narrow ty v = v) (hf : fits ty v = true)
    (hI : ∀ h', Wr h h' a (RoadKit.slotOf Z O n d) v → I s' h') (hd : decode bytes pc = .ok (.putfield index, 3)) (hp : pc + 3 = pc')
    (hr : ∀ T' h', Wr h h' a (RoadKit.slotOf Z O n d) v → Wk p l e R m args below meth c own bytes maxL Z I s' T' (locs ++ [⟨a, RoadKit.slotOf Z O n d⟩]) cells slots h' → Go p e below G (T'.setTop (mkF m pc' Ls S))) : Go p e below G (T.setTop (mkF m pc Ls (v :: .ref a :: S))) := by
  subst hp
  obtain ⟨T', h', X', e', W', st⟩ := putF D.st D.ex D.wm D.ow (host := "") (Or.inl w) via D.eq F E L wi hty hn hf (g := mkF m pc Ls (v :: .ref a :: S)) rfl rfl (hb D.cb hd)
  exact Go.mono st (hr T' h' W' (D.mk' X' e' (hI h' W')))
theorem g_newO (D : Wk p l e R m args below meth c own bytes maxL Z I s' T locs cells slots h) (pc' : Nat) {C : String} {index n : Nat} (w : (Cond.classLink own index C).before a0 Z = true) (wi : (Cond.instantiable C n).before a0 Z = true) (wz : (Cond.initialized C).before a0 Z = true) (hd : decode bytes pc = .ok (.new index, 3)) (hc : cells + 1 ≤ R.cells) (hl : slots + n ≤ R.slots) (hI : ∀ h', Ext h h' → I s' h') (hp : pc + 3 = pc')
    (hr : ∀ T' h' a, a = h.size → Ext h h' → Exa Z h' a C → (∀ {O nm d : String} {ty : FieldType}, Laid Z a0 C O nm d → parseFieldDescriptor d = some ty → Fld Z h' a O nm d (defaultValue ty)) → Wk p l e R m args below meth c own bytes maxL Z I s' T' locs (cells + 1) (slots + n) h' → Go p e below G (T'.setTop (mkF m pc' Ls (.ref a :: S)))) : Go p e below G (T.setTop (mkF m pc Ls S)) := by
  subst hp
  obtain ⟨T', h', X', e', E', A', D', -, st⟩ := newO D.st D.ex D.wm D.ow w wi wz D.eq (g := mkF m pc Ls S) rfl (hb D.cb hd) hc hl
  exact Go.mono st (hr T' h' _ rfl E' A' D' (D.mk' X' e' (hI h' E')))
theorem g_newP (D : Wk p l e R m args below meth c own bytes maxL Z I s' T locs cells slots h) (pc' : Nat) {aty : ArrayType} (w : (Cond.arrayClass (newarray.typeOf aty)).before a0 Z = true) {n : Int32} (hd : decode bytes pc = .ok (.newarray aty, 2)) (hn : ¬ n < 0) {cap : Nat} (hcap : n.toNatClampNeg ≤ cap) (hb' : cap * 8 ≤ 536870912) (hc : cells + 1 ≤ R.cells) (hl : slots + cap ≤ R.slots) (hI : ∀ h', Ext h h' → I s' h') (hp : pc + 2 = pc')
    (hr : ∀ T' h' a k, a = h.size → Ext h h' → Arv Z h' a k (newarray.typeOf aty) n [] (defaultValue (newarray.typeOf aty)) → Wk p l e R m args below meth c own bytes maxL Z I s' T' locs (cells + 1) (slots + cap) h' → Go p e below G (T'.setTop (mkF m pc' Ls (.ref a :: S)))) : Go p e below G (T.setTop (mkF m pc Ls (.int n :: S))) := by
  subst hp
  obtain ⟨T', h', k, X', e', E', A', st⟩ := newP D.st D.ex D.wm w D.eq (g := mkF m pc Ls (.int n :: S)) rfl (hb D.cb hd) rfl hn hcap hb' hc hl
  exact Go.mono st (hr T' h' _ k rfl E' (Arv.new A' hn) (D.mk' X' e' (hI h' E')))
theorem g_castY (D : Wk p l e R m args below meth c own bytes maxL Z I s' T locs cells slots h) (pc' : Nat) {K : String} {index : Nat} (w : (Cond.classLink own index K).before a0 Z = true) {a : Addr} (F : Ins Z h a K true) (hd : decode bytes pc = .ok (.checkcast index, 3)) (hp : pc + 3 = pc')
    (hr : ∀ T', Wk p l e R m args below meth c own bytes maxL Z I s' T' locs cells slots h → Go p e below G (T'.setTop (mkF m pc' Ls (.ref a :: S)))) : Go p e below G (T.setTop (mkF m pc Ls (.ref a :: S))) := by
  subst hp
  obtain ⟨T', X', e', st⟩ := castY D.st D.ex D.wm D.ow w D.eq F (g := mkF m pc Ls (.ref a :: S)) rfl rfl (hb D.cb hd)
  exact Go.mono st (hr T' (D.mk' X' e' D.iv))
theorem g_instY (D : Wk p l e R m args below meth c own bytes maxL Z I s' T locs cells slots h) (pc' : Nat) {K : String} {index : Nat} (w : (Cond.classLink own index K).before a0 Z = true) {a : Addr} (F : Ins Z h a K true) (hd : decode bytes pc = .ok (.instanceof index, 3)) (hp : pc + 3 = pc')
    (hr : ∀ T', Wk p l e R m args below meth c own bytes maxL Z I s' T' locs cells slots h → Go p e below G (T'.setTop (mkF m pc' Ls (.int 1 :: S)))) : Go p e below G (T.setTop (mkF m pc Ls (.ref a :: S))) := by
  subst hp
  obtain ⟨T', X', e', st⟩ := instY D.st D.ex D.wm D.ow w D.eq F (g := mkF m pc Ls (.ref a :: S)) rfl rfl (hb D.cb hd)
  exact Go.mono st (hr T' (D.mk' X' e' D.iv))
theorem g_instNo (D : Wk p l e R m args below meth c own bytes maxL Z I s' T locs cells slots h) (pc' : Nat) {K C : String} {index : Nat} (w : (Cond.classLink own index K).before a0 Z = true) {a : Addr} (E : Exa Z h a C) (F : ∃ c t, Z.vm.findClass C = some c ∧ Z.vm.findClass K = some t ∧ Z.vm.assignable c t = false) (hd : decode bytes pc = .ok (.instanceof index, 3)) (hp : pc + 3 = pc')
    (hr : ∀ T', Wk p l e R m args below meth c own bytes maxL Z I s' T' locs cells slots h → Go p e below G (T'.setTop (mkF m pc' Ls (.int 0 :: S)))) : Go p e below G (T.setTop (mkF m pc Ls (.ref a :: S))) := by
  subst hp
  obtain ⟨T', X', e', st⟩ := instNo D.st D.ex D.wm D.ow w D.eq E F (g := mkF m pc Ls (.ref a :: S)) rfl rfl (hb D.cb hd)
  exact Go.mono st (hr T' (D.mk' X' e' D.iv))
theorem g_instNull (D : Wk p l e R m args below meth c own bytes maxL Z I s' T locs cells slots h) (pc' : Nat) {index : Nat} (hd : decode bytes pc = .ok (.instanceof index, 3)) (hp : pc + 3 = pc') (hr : Go p e below G (T.setTop (mkF m pc' Ls (.int 0 :: S)))) : Go p e below G (T.setTop (mkF m pc Ls (.null :: S))) := by
  subst hp
  exact Go.mono (fun t k => D.st.instanceofNull D.ex (g := mkF m pc Ls (.null :: S)) rfl rfl (hb D.cb hd) t k) hr
theorem g_alen (D : Wk p l e R m args below meth c own bytes maxL Z I s' T locs cells slots h) (pc' : Nat) {a : Addr} {k : ClassId} {ty : FieldType} {n : Int32} {vs : List Value} {d : Value} (V : Arv Z h a k ty n vs d) (hd : decode bytes pc = .ok (.arraylength, 1)) (hp : pc + 1 = pc') (hr : Go p e below G (T.setTop (mkF m pc' Ls (.int n :: S)))) : Go p e below G (T.setTop (mkF m pc Ls (.ref a :: S))) := by
  subst hp
  obtain ⟨cl, A, -, q, q', -⟩ := V
  refine Go.mono (fun t k => D.st.arraylength D.ex (by rw [D.eq]; exact A.1) (State.isArrayOf_alike D.wm.alike A.2.1) (g := mkF m pc Ls (.ref a :: S)) rfl rfl (hb D.cb hd) t k) ?_
  rw [len_of q q']; exact hr
theorem g_caload (D : Wk p l e R m args below meth c own bytes maxL Z I s' T locs cells slots h) (pc' : Nat) {a : Addr} {k : ClassId} {n j : Int32} {vs : List Value} {d v : Value} (V : Arv Z h a k .char n vs d) (hj : ¬ j < 0 ∧ j < n) (hv : vs.getD j.toNatClampNeg d = v) (hd : decode bytes pc = .ok (.caload, 1)) (hp : pc + 1 = pc') (hr : Go p e below G (T.setTop (mkF m pc' Ls (v :: S)))) : Go p e below G (T.setTop (mkF m pc Ls (.int j :: .ref a :: S))) := by
  subst hp
  obtain ⟨cl, A, -, q, q', H, -⟩ := V
  exact Go.mono (fun t k => D.st.caload D.ex (by rw [D.eq]; exact A.1) (State.isArrayOf_alike D.wm.alike A.2.1) A.2.2 (inb_of q hj) (H.at (inb_of q hj) hv) (g := mkF m pc Ls (.int j :: .ref a :: S)) rfl rfl (hb D.cb hd) t k) hr
theorem g_baload (D : Wk p l e R m args below meth c own bytes maxL Z I s' T locs cells slots h) (pc' : Nat) {a : Addr} {k : ClassId} {n j : Int32} {vs : List Value} {d v : Value} (V : Arv Z h a k .byte n vs d) (hj : ¬ j < 0 ∧ j < n) (hv : vs.getD j.toNatClampNeg d = v) (hd : decode bytes pc = .ok (.baload, 1)) (hp : pc + 1 = pc') (hr : Go p e below G (T.setTop (mkF m pc' Ls (v :: S)))) : Go p e below G (T.setTop (mkF m pc Ls (.int j :: .ref a :: S))) := by
  subst hp
  obtain ⟨cl, A, -, q, q', H, -⟩ := V
  exact Go.mono (fun t k => D.st.baloadBytes D.ex (by rw [D.eq]; exact A.1) (State.isArrayOf_alike D.wm.alike A.2.1) A.2.2 (inb_of q hj) (H.at (inb_of q hj) hv) (g := mkF m pc Ls (.int j :: .ref a :: S)) rfl rfl (hb D.cb hd) t k) hr
theorem g_iaload (D : Wk p l e R m args below meth c own bytes maxL Z I s' T locs cells slots h) (pc' : Nat) {a : Addr} {k : ClassId} {n j : Int32} {vs : List Value} {d v : Value} (V : Arv Z h a k .int n vs d) (hj : ¬ j < 0 ∧ j < n) (hv : vs.getD j.toNatClampNeg d = v) (hd : decode bytes pc = .ok (.iaload, 1)) (hp : pc + 1 = pc') (hr : Go p e below G (T.setTop (mkF m pc' Ls (v :: S)))) : Go p e below G (T.setTop (mkF m pc Ls (.int j :: .ref a :: S))) := by
  subst hp
  obtain ⟨cl, A, -, q, q', H, -⟩ := V
  exact Go.mono (fun t k => D.st.iaload D.ex (by rw [D.eq]; exact A.1) (State.isArrayOf_alike D.wm.alike A.2.1) A.2.2 (inb_of q hj) (H.at (inb_of q hj) hv) (g := mkF m pc Ls (.int j :: .ref a :: S)) rfl rfl (hb D.cb hd) t k) hr
theorem g_laload (D : Wk p l e R m args below meth c own bytes maxL Z I s' T locs cells slots h) (pc' : Nat) {a : Addr} {k : ClassId} {n j : Int32} {vs : List Value} {d v : Value} (V : Arv Z h a k .long n vs d) (hj : ¬ j < 0 ∧ j < n) (hv : vs.getD j.toNatClampNeg d = v) (hd : decode bytes pc = .ok (.laload, 1)) (hp : pc + 1 = pc') (hr : Go p e below G (T.setTop (mkF m pc' Ls (v :: S)))) : Go p e below G (T.setTop (mkF m pc Ls (.int j :: .ref a :: S))) := by
  subst hp
  obtain ⟨cl, A, -, q, q', H, -⟩ := V
  exact Go.mono (fun t k => D.st.laload D.ex (by rw [D.eq]; exact A.1) (State.isArrayOf_alike D.wm.alike A.2.1) A.2.2 (inb_of q hj) (H.at (inb_of q hj) hv) (g := mkF m pc Ls (.int j :: .ref a :: S)) rfl rfl (hb D.cb hd) t k) hr
theorem g_aaload (D : Wk p l e R m args below meth c own bytes maxL Z I s' T locs cells slots h) (pc' : Nat) {a : Addr} {k : ClassId} {n j : Int32} {ty : FieldType} {vs : List Value} {d v : Value} (V : Arv Z h a k ty n vs d) (hty : ty.isReference = true) (hj : ¬ j < 0 ∧ j < n) (hv : vs.getD j.toNatClampNeg d = v) (hd : decode bytes pc = .ok (.aaload, 1)) (hp : pc + 1 = pc') (hr : Go p e below G (T.setTop (mkF m pc' Ls (v :: S)))) : Go p e below G (T.setTop (mkF m pc Ls (.int j :: .ref a :: S))) := by
  subst hp
  obtain ⟨cl, A, -, q, q', H, -⟩ := V
  exact Go.mono (fun t k => D.st.aaload D.ex (by rw [D.eq]; exact A.1) (State.isArrayOf_alike D.wm.alike A.2.1) hty A.2.2 (inb_of q hj) (H.at (inb_of q hj) hv) (g := mkF m pc Ls (.int j :: .ref a :: S)) rfl rfl (hb D.cb hd) t k) hr
theorem g_castore (D : Wk p l e R m args below meth c own bytes maxL Z I s' T locs cells slots h) (pc' : Nat) {a : Addr} {k : ClassId} {n j : Int32} {x : Int32} {vs : List Value} {d : Value} (V : Arv Z h a k .char n vs d) (hj : ¬ j < 0 ∧ j < n) (i : Nat) (hi : j.toNatClampNeg = i) (hv : i < vs.length) (hI : ∀ h', Wr h h' a j.toNatClampNeg (.int (nar .char x)) → I s' h') (hd : decode bytes pc = .ok (.castore, 1)) (hp : pc + 1 = pc')
    (hr : ∀ T' h', Wr h h' a j.toNatClampNeg (.int (nar .char x)) → Arv Z h' a k .char n (vs.set i (.int (nar .char x))) d → Wk p l e R m args below meth c own bytes maxL Z I s' T' (locs ++ [⟨a, j.toNatClampNeg⟩]) cells slots h' → Go p e below G (T'.setTop (mkF m pc' Ls S))) : Go p e below G (T.setTop (mkF m pc Ls (.int x :: .int j :: .ref a :: S))) := by
  subst hp
  obtain ⟨cl, A, q1, q, q', H, F⟩ := V
  obtain ⟨T', h', X', e', W', st⟩ := stC D.st D.ex D.wm D.eq A (inb_of q hj) (g := mkF m pc Ls (.int x :: .int j :: .ref a :: S)) rfl rfl (hb D.cb hd)
  exact Go.mono st (hr T' h' W' (Arv.set A q1 q q' H F (fits_nar_char _) W' i hi hv) (D.mk' X' e' (hI h' W')))
theorem g_bastore (D : Wk p l e R m args below meth c own bytes maxL Z I s' T locs cells slots h) (pc' : Nat) {a : Addr} {k : ClassId} {n j : Int32} {x : Int32} {vs : List Value} {d : Value} (V : Arv Z h a k .byte n vs d) (hj : ¬ j < 0 ∧ j < n) (i : Nat) (hi : j.toNatClampNeg = i) (hv : i < vs.length) (hI : ∀ h', Wr h h' a j.toNatClampNeg (.int (nar .byte x)) → I s' h') (hd : decode bytes pc = .ok (.bastore, 1)) (hp : pc + 1 = pc')
    (hr : ∀ T' h', Wr h h' a j.toNatClampNeg (.int (nar .byte x)) → Arv Z h' a k .byte n (vs.set i (.int (nar .byte x))) d → Wk p l e R m args below meth c own bytes maxL Z I s' T' (locs ++ [⟨a, j.toNatClampNeg⟩]) cells slots h' → Go p e below G (T'.setTop (mkF m pc' Ls S))) : Go p e below G (T.setTop (mkF m pc Ls (.int x :: .int j :: .ref a :: S))) := by
  subst hp
  obtain ⟨cl, A, q1, q, q', H, F⟩ := V
  obtain ⟨T', h', X', e', W', st⟩ := stB D.st D.ex D.wm D.eq A (inb_of q hj) (g := mkF m pc Ls (.int x :: .int j :: .ref a :: S)) rfl rfl (hb D.cb hd)
  exact Go.mono st (hr T' h' W' (Arv.set A q1 q q' H F (fits_nar_byte _) W' i hi hv) (D.mk' X' e' (hI h' W')))
theorem g_iastore (D : Wk p l e R m args below meth c own bytes maxL Z I s' T locs cells slots h) (pc' : Nat) {a : Addr} {k : ClassId} {n j : Int32} {x : Int32} {vs : List Value} {d : Value} (V : Arv Z h a k .int n vs d) (hj : ¬ j < 0 ∧ j < n) (i : Nat) (hi : j.toNatClampNeg = i) (hv : i < vs.length) (hI : ∀ h', Wr h h' a j.toNatClampNeg (.int x) → I s' h') (hd : decode bytes pc = .ok (.iastore, 1)) (hp : pc + 1 = pc')
    (hr : ∀ T' h', Wr h h' a j.toNatClampNeg (.int x) → Arv Z h' a k .int n (vs.set i (.int x)) d → Wk p l e R m args below meth c own bytes maxL Z I s' T' (locs ++ [⟨a, j.toNatClampNeg⟩]) cells slots h' → Go p e below G (T'.setTop (mkF m pc' Ls S))) : Go p e below G (T.setTop (mkF m pc Ls (.int x :: .int j :: .ref a :: S))) := by
  subst hp
  obtain ⟨cl, A, q1, q, q', H, F⟩ := V
  obtain ⟨T', h', X', e', W', st⟩ := stI D.st D.ex D.wm D.eq A (inb_of q hj) (g := mkF m pc Ls (.int x :: .int j :: .ref a :: S)) rfl rfl (hb D.cb hd)
  exact Go.mono st (hr T' h' W' (Arv.set A q1 q q' H F rfl W' i hi hv) (D.mk' X' e' (hI h' W')))
theorem g_lastore (D : Wk p l e R m args below meth c own bytes maxL Z I s' T locs cells slots h) (pc' : Nat) {a : Addr} {k : ClassId} {n j : Int32} {x : Int64} {vs : List Value} {d : Value} (V : Arv Z h a k .long n vs d) (hj : ¬ j < 0 ∧ j < n) (i : Nat) (hi : j.toNatClampNeg = i) (hv : i < vs.length) (hI : ∀ h', Wr h h' a j.toNatClampNeg (.long x) → I s' h') (hd : decode bytes pc = .ok (.lastore, 1)) (hp : pc + 1 = pc')
    (hr : ∀ T' h', Wr h h' a j.toNatClampNeg (.long x) → Arv Z h' a k .long n (vs.set i (.long x)) d → Wk p l e R m args below meth c own bytes maxL Z I s' T' (locs ++ [⟨a, j.toNatClampNeg⟩]) cells slots h' → Go p e below G (T'.setTop (mkF m pc' Ls S))) : Go p e below G (T.setTop (mkF m pc Ls (.long x :: .int j :: .ref a :: S))) := by
  subst hp
  obtain ⟨cl, A, q1, q, q', H, F⟩ := V
  obtain ⟨T', h', X', e', W', st⟩ := stJ D.st D.ex D.wm D.eq A (inb_of q hj) (g := mkF m pc Ls (.long x :: .int j :: .ref a :: S)) rfl rfl (hb D.cb hd)
  exact Go.mono st (hr T' h' W' (Arv.set A q1 q q' H F rfl W' i hi hv) (D.mk' X' e' (hI h' W')))
theorem g_initO (D : Wk p l e R m args below meth c own bytes maxL Z I s' T locs cells slots h) (pc' : Nat) {idx : Nat} (w1 : (Cond.methodLink own idx Lib.objectInit).before a0 Z = true) (w2 : (Cond.instanceMethod Lib.objectInit).before a0 Z = true) (w3 : (Cond.code Lib.objectInit ⟨#[0xb1]⟩ 1 none).before a0 Z = true) (hsz : Ls.size = maxL) {a : Addr} (hd : decode bytes pc = .ok (.invokespecial idx, 3)) (hf : 1 ≤ R.frames) {W : Nat} (hW : (S.map fun v => v.category).sum ≤ W) (hl : W + 12 ≤ R.locals) (hp : pc + 3 = pc')
    (hr : ∀ T', Wk p l e R m args below meth c own bytes maxL Z I s' T' locs cells slots h → Go p e below G (T'.setTop (mkF m pc' Ls S))) : Go p e below G (T.setTop (mkF m pc Ls (.ref a :: S))) := by
  subst hp
  obtain ⟨T', X', e', st⟩ := initO D.st D.ex D.wm D.ow w1 w2 w3 D.eq (g := mkF m pc Ls (.ref a :: S)) rfl (by rw [D.ml]; exact hsz) rfl (hb D.cb hd) hf (W := W) (by simpa using hW) hl
  exact Go.mono st (hr T' (D.mk' X' e' D.iv))
theorem g_clone (D : Wk p l e R m args below meth c own bytes maxL Z I s' T locs cells slots h) (pc' : Nat) {ad : String} {index : Nat} (w1 : (Cond.methodLink own index ⟨ad, "clone", "()Ljava/lang/Object;"⟩).before a0 Z = true) (w2 : (Cond.sameMethod ad "java/lang/Object" "clone" "()Ljava/lang/Object;").before a0 Z = true) (w3 : (Cond.native ⟨"java/lang/Object", "clone", "()Ljava/lang/Object;"⟩).before a0 Z = true) (w4 : (Cond.instanceMethod ⟨"java/lang/Object", "clone", "()Ljava/lang/Object;"⟩).before a0 Z = true) (w5 : (Cond.selects ad ⟨ad, "clone", "()Ljava/lang/Object;"⟩ ⟨"java/lang/Object", "clone", "()Ljava/lang/Object;"⟩).before a0 Z = true) (w6 : (Cond.castable ad "java/lang/Cloneable").before a0 Z = true)
    {a : Addr} {k : ClassId} {ty : FieldType} {z : Int32} {vs : List Value} {dv : Value} (F : Arv Z h a k ty z vs dv) (E : Exa Z h a ad) (hsz : Ls.size = maxL) (hd : decode bytes pc = .ok (.invokevirtual index, 3)) (hf : 1 ≤ R.frames) {W cap : Nat} (hW : (S.map fun v => v.category).sum ≤ W) (hl : W + 14 ≤ R.locals) (hcap : z.toNatClampNeg ≤ cap) (hc : cells + 1 ≤ R.cells) (hsl : slots + cap ≤ R.slots) (hI : ∀ h', Ext h h' → I s' h') (hp : pc + 3 = pc')
    (hr : ∀ T' h' b, b = h.size → Ext h h' → Arv Z h' b k ty z vs dv → Exa Z h' b ad → Wk p l e R m args below meth c own bytes maxL Z I s' T' locs (cells + 1) (slots + cap) h' → Go p e below G (T'.setTop (mkF m pc' Ls (.ref b :: S)))) : Go p e below G (T.setTop (mkF m pc Ls (.ref a :: S))) := by
  subst hp
  obtain ⟨T', h', X', e', E', A', B', st⟩ := cloneH D.st D.ex D.wm D.ow w1 w2 w3 w4 w5 w6 D.eq F.arh E (g := mkF m pc Ls (.ref a :: S)) rfl (by rw [D.ml]; exact hsz) rfl (hb D.cb hd) hf (by simpa using hW) hl hcap hc hsl
  exact Go.mono st (hr T' h' _ rfl E' A' B' (D.mk' X' e' (hI h' E')))
theorem g_callS (D : Wk p l e R m args below meth c own bytes maxL Z I s' T locs cells slots h) (pc' : Nat) {index : Nat} {y : MethodName} {bz : ByteArray} {mL : Nat} {ret' : Option FieldType} {W ck sk : Nat} {as' : Array Value} {Q : Option Value → Heap → List Loc → Prop} (w1 : (Cond.methodLink own index y).before a0 Z = true) (w2 : (Cond.static y).before a0 Z = true) (w3 : (Cond.initialized y.cls).before a0 Z = true) (w4 : (Cond.code y bz mL ret').before a0 Z = true) (hy : y.cls ≠ "java/lang/invoke/MethodHandle" ∧ y.cls ≠ "java/lang/invoke/VarHandle")
    (K : Back l R p e below s' args y 3 W (fun A a => a = as' ∧ A.U.heap = h ∧ A.cells + ck ≤ R.cells ∧ A.slots + sk ≤ R.slots) (fun A _ v B => ∃ L, Q v B.U.heap L ∧ B.locs = A.locs ++ L ∧ B.cells = A.cells + ck ∧ B.slots = A.slots + sk)) (hsz : Ls.size = maxL) (argsL : List Value) (has : argsL.toArray = as') (hlen : ∀ sig, parseMethodDescriptor y.desc = some sig → argsL.length = sig.parameters.length) {S0 : List Value} (hst : S0 = argsL.reverse ++ S) (hW : (S.map fun v => v.category).sum ≤ W) (hc : cells + ck ≤ R.cells) (hl : slots + sk ≤ R.slots) (hI : ∀ v h' L, Q v h' L → I s' h') (hd : decode bytes pc = .ok (.invokestatic index, 3)) (hp : pc + 3 = pc')
    (hr : ∀ v T' h' L, Q v h' L → Wk p l e R m args below meth c own bytes maxL Z I s' T' (locs ++ L) (cells + ck) (slots + sk) h' → Go p e below G (T'.setTop (mkF m pc' Ls (v.toList ++ S)))) : Go p e below G (T.setTop (mkF m pc Ls S0)) := by
  subst hp hst
  obtain ⟨v, _, ⟨T', L', k', n'⟩, -, X', ⟨L, hQ, l', y', z'⟩, st⟩ := Jvm.LawKit.callS D.st D.ex D.ow (mvT D.wm w1) (mvT D.wm w2) (mvT D.wm w3) (mvT D.wm w4) hy K (g := mkF m pc Ls (argsL.reverse ++ S)) rfl (by rw [D.ml]; exact hsz) (argsL := argsL) (rest := S) hlen rfl (by simpa using hW) (hb D.cb hd) (fun _ _ => ⟨has, D.eq, hc, hl⟩)
  dsimp only at X' l' y' z' st hQ
  subst l' y' z'
  exact Go.mono st (hr v T' _ L hQ (D.mk' X' rfl (hI v _ L hQ)))
theorem g_callV (D : Wk p l e R m args below meth c own bytes maxL Z I s' T locs cells slots h) (pc' : Nat) {index : Nat} {y z : MethodName} {C : String} {W ck sk : Nat} {as' : Array Value} {Q : Option Value → Heap → List Loc → Prop} (w1 : (Cond.methodLink own index y).before a0 Z = true) (w2 : (Cond.declares y).before a0 Z = true) (hnf : NotFace s' y) (w4 : (Cond.selects C y z).before a0 Z = true) (w5 : (Cond.instanceMethod z).before a0 Z = true) (hy : y.cls ≠ "java/lang/invoke/MethodHandle" ∧ y.cls ≠ "java/lang/invoke/VarHandle")
    (K : Back l R p e below s' args z 3 W (fun A a => a = as' ∧ A.U.heap = h ∧ A.cells + ck ≤ R.cells ∧ A.slots + sk ≤ R.slots) (fun A _ v B => ∃ L, Q v B.U.heap L ∧ B.locs = A.locs ++ L ∧ B.cells = A.cells + ck ∧ B.slots = A.slots + sk)) {b : Addr} (E : Exa Z h b C) (hsz : Ls.size = maxL) (argsL : List Value) (has : (.ref b :: argsL).toArray = as') (hlen : ∀ sig, parseMethodDescriptor y.desc = some sig → argsL.length = sig.parameters.length) {S0 : List Value} (hst : S0 = argsL.reverse ++ .ref b :: S) (hW : (S.map fun v => v.category).sum ≤ W) (hc : cells + ck ≤ R.cells) (hl : slots + sk ≤ R.slots) (hI : ∀ v h' L, Q v h' L → I s' h') (hd : decode bytes pc = .ok (.invokevirtual index, 3)) (hp : pc + 3 = pc')
    (hr : ∀ v T' h' L, Q v h' L → Wk p l e R m args below meth c own bytes maxL Z I s' T' (locs ++ L) (cells + ck) (slots + sk) h' → Go p e below G (T'.setTop (mkF m pc' Ls (v.toList ++ S)))) : Go p e below G (T.setTop (mkF m pc Ls S0)) := by
  subst hp hst
  obtain ⟨cq, kq, qa, qb, qc⟩ := isOf D.wm D.eq E
  obtain ⟨v, _, ⟨T', L', k', n'⟩, -, X', ⟨L, hQ, l', y', z'⟩, st⟩ := D.st.virtualBack D.ex (y := y) (z := z) D.ow (mvT D.wm w1) (mvT D.wm w2) hnf (mvT D.wm w4) (mvT D.wm w5) hy K qa qc (g := mkF m pc Ls (argsL.reverse ++ .ref b :: S)) rfl (by rw [D.ml]; exact hsz) (Steps.refl _) (argsL := argsL) (rest := S) hlen rfl (by simpa using hW) (hb D.cb hd) (fun _ _ => ⟨has, D.eq, hc, hl⟩)
  dsimp only at X' l' y' z' st hQ
  subst l' y' z'
  exact Go.mono (fun t k => st.trans k) (hr v T' _ L hQ (D.mk' X' rfl (hI v _ L hQ)))
theorem g_callN (D : Wk p l e R m args below meth c own bytes maxL Z I s' T locs cells slots h) (pc' : Nat) {index : Nat} {y : MethodName} {bz : ByteArray} {mL : Nat} {W ck sk : Nat} {as' : Array Value} {Q : Option Value → Heap → List Loc → Prop} (hy1 : y.name = "<init>") (w1 : (Cond.methodLink own index y).before a0 Z = true) (w2 : (Cond.instanceMethod y).before a0 Z = true) (w3 : (Cond.code y bz mL none).before a0 Z = true) (hy : y.cls ≠ "java/lang/invoke/MethodHandle" ∧ y.cls ≠ "java/lang/invoke/VarHandle")
    (K : Back l R p e below s' args y 3 W (fun A a => a = as' ∧ A.U.heap = h ∧ A.cells + ck ≤ R.cells ∧ A.slots + sk ≤ R.slots) (fun A _ v B => ∃ L, Q v B.U.heap L ∧ B.locs = A.locs ++ L ∧ B.cells = A.cells + ck ∧ B.slots = A.slots + sk)) {b : Addr} (hsz : Ls.size = maxL) (argsL : List Value) (has : (.ref b :: argsL).toArray = as') (hlen : ∀ sig, parseMethodDescriptor y.desc = some sig → argsL.length = sig.parameters.length) {S0 : List Value} (hst : S0 = argsL.reverse ++ .ref b :: S) (hW : (S.map fun v => v.category).sum ≤ W) (hc : cells + ck ≤ R.cells) (hl : slots + sk ≤ R.slots) (hI : ∀ v h' L, Q v h' L → I s' h') (hd : decode bytes pc = .ok (.invokespecial index, 3)) (hp : pc + 3 = pc')
    (hr : ∀ v T' h' L, Q v h' L → Wk p l e R m args below meth c own bytes maxL Z I s' T' (locs ++ L) (cells + ck) (slots + sk) h' → Go p e below G (T'.setTop (mkF m pc' Ls (v.toList ++ S)))) : Go p e below G (T.setTop (mkF m pc Ls S0)) := by
  subst hp hst
  obtain ⟨v, _, ⟨T', L', k', n'⟩, -, X', ⟨L, hQ, l', y', z'⟩, st⟩ := D.st.specialBack D.ex (y := y) hy1 D.ow (mvT D.wm w1) (mvT D.wm w2) (mvT D.wm w3) hy K (g := mkF m pc Ls (argsL.reverse ++ .ref b :: S)) rfl (by rw [D.ml]; exact hsz) (Steps.refl _) (a := b) (argsL := argsL) (rest := S) hlen rfl (by simpa using hW) (hb D.cb hd) (fun _ _ => ⟨has, D.eq, hc, hl⟩)
  dsimp only at X' l' y' z' st hQ
  subst l' y' z'
  exact Go.mono (fun t k => st.trans k) (hr v T' _ L hQ (D.mk' X' rfl (hI v _ L hQ)))
theorem g_callNN (D : Wk p l e R m args below meth c own bytes maxL Z I s' T locs cells slots h) (pc' : Nat) {index : Nat} {host : String} {y : MethodName} {bz : ByteArray} {mL : Nat} {W ck sk : Nat} {as' : Array Value} {Q : Option Value → Heap → List Loc → Prop} (hy1 : y.name = "<init>") (w1 : (Cond.methodLinkNest own index y host).before a0 Z = true) (w2 : (Cond.instanceMethod y).before a0 Z = true) (w3 : (Cond.code y bz mL none).before a0 Z = true) (hy : y.cls ≠ "java/lang/invoke/MethodHandle" ∧ y.cls ≠ "java/lang/invoke/VarHandle")
    (K : Back l R p e below s' args y 3 W (fun A a => a = as' ∧ A.U.heap = h ∧ A.cells + ck ≤ R.cells ∧ A.slots + sk ≤ R.slots) (fun A _ v B => ∃ L, Q v B.U.heap L ∧ B.locs = A.locs ++ L ∧ B.cells = A.cells + ck ∧ B.slots = A.slots + sk)) {b : Addr} (hsz : Ls.size = maxL) (argsL : List Value) (has : (.ref b :: argsL).toArray = as') (hlen : ∀ sig, parseMethodDescriptor y.desc = some sig → argsL.length = sig.parameters.length) {S0 : List Value} (hst : S0 = argsL.reverse ++ .ref b :: S) (hW : (S.map fun v => v.category).sum ≤ W) (hc : cells + ck ≤ R.cells) (hl : slots + sk ≤ R.slots) (hI : ∀ v h' L, Q v h' L → I s' h') (hd : decode bytes pc = .ok (.invokespecial index, 3)) (hp : pc + 3 = pc')
    (hr : ∀ v T' h' L, Q v h' L → Wk p l e R m args below meth c own bytes maxL Z I s' T' (locs ++ L) (cells + ck) (slots + sk) h' → Go p e below G (T'.setTop (mkF m pc' Ls (v.toList ++ S)))) : Go p e below G (T.setTop (mkF m pc Ls S0)) := by
  subst hp hst
  obtain ⟨v, _, ⟨T', L', k', n'⟩, -, X', ⟨L, hQ, l', y', z'⟩, st⟩ := D.st.specialBackNest D.ex (y := y) hy1 D.ow (Cond.methodLinkNest_wide D.wm w1 :) (mvT D.wm w2) (mvT D.wm w3) hy K (g := mkF m pc Ls (argsL.reverse ++ .ref b :: S)) rfl (by rw [D.ml]; exact hsz) (Steps.refl _) (a := b) (argsL := argsL) (rest := S) hlen rfl (by simpa using hW) (hb D.cb hd) (fun _ _ => ⟨has, D.eq, hc, hl⟩)
  dsimp only at X' l' y' z' st hQ
  subst l' y' z'
  exact Go.mono (fun t k => st.trans k) (hr v T' _ L hQ (D.mk' X' rfl (hI v _ L hQ)))
theorem g_newPE (D : Wk p l e R m args below meth c own bytes maxL Z I s' T locs cells slots h) (pc' : Nat) {aty : ArrayType} (w : (Cond.arrayClass (newarray.typeOf aty)).before a0 Z = true) {n : Int32} (hd : decode bytes pc = .ok (.newarray aty, 2)) (hn : ¬ n < 0) {cap : Nat} (hcap : n.toNatClampNeg ≤ cap) (hb' : cap * 8 ≤ 536870912) (hc : cells + 1 ≤ R.cells) (hl : slots + cap ≤ R.slots) {ad : String} (had : "[" ++ (newarray.typeOf aty).toString = ad) (hI : ∀ h', Ext h h' → I s' h') (hp : pc + 2 = pc')
    (hr : ∀ T' h' a k, a = h.size → Ext h h' → Arv Z h' a k (newarray.typeOf aty) n [] (defaultValue (newarray.typeOf aty)) → Exa Z h' a ad → Wk p l e R m args below meth c own bytes maxL Z I s' T' locs (cells + 1) (slots + cap) h' → Go p e below G (T'.setTop (mkF m pc' Ls (.ref a :: S)))) : Go p e below G (T.setTop (mkF m pc Ls (.int n :: S))) := by
  subst hp
  obtain ⟨T', h', k, X', e', E', A', B', st⟩ := newPE D.st D.ex D.wm w D.eq (g := mkF m pc Ls (.int n :: S)) rfl (hb D.cb hd) rfl hn hcap hb' hc hl had
  exact Go.mono st (hr T' h' _ k rfl E' (Arv.new A' hn) B' (D.mk' X' e' (hI h' E')))
theorem g_cpA (D : Wk p l e R m args below meth c own bytes maxL Z I s' T locs cells slots h) (pc' : Nat) {index : Nat} (w1 : (Cond.methodLink own index Jvm.Stand.acN).before a0 Z = true) (w2 : (Cond.native Jvm.Stand.acN).before a0 Z = true) (w3 : (Cond.static Jvm.Stand.acN).before a0 Z = true) (w4 : (Cond.initialized "java/lang/System").before a0 Z = true) {a b : Addr} {k k' : ClassId} {ty : FieldType} {z z' sp dp nn : Int32} {vs vd : List Value} {dv dd : Value} (us : List Value) (A : Arv Z h a k ty z vs dv) (B : Arv Z h b k' ty z' vd dd) (hty : refKind ty = false)
    (h1 : ¬ sp < 0) (h2 : ¬ dp < 0) (h3 : ¬ nn < 0) (h4 : sp.toNatClampNeg + nn.toNatClampNeg ≤ z.toNatClampNeg) (h5 : dp.toNatClampNeg + nn.toNatClampNeg ≤ z'.toNatClampNeg) (hus : us = (List.range nn.toNatClampNeg).map fun i => vs.getD (sp.toNatClampNeg + i) dv) (hl : dp.toNatClampNeg + nn.toNatClampNeg ≤ vd.length) {n0 : Nat} (N : Fr n0 locs) (ge : n0 ≤ b) (hsz : Ls.size = maxL) (hd : decode bytes pc = .ok (.invokestatic index, 3)) (hf : 1 ≤ R.frames) {W : Nat} (hW : (S.map fun v => v.category).sum ≤ W) (hlo : W + (nativeFrameWords "java/lang/System" "arraycopy" 5 + 11) ≤ R.locals) (hI : ∀ h', Keep h h' [b] → I s' h') (hp : pc + 3 = pc')
    (hr : ∀ T' h' L, Fr n0 L → Keep h h' [b] → Arv Z h' b k' ty z' (vd.take dp.toNatClampNeg ++ us ++ vd.drop (dp.toNatClampNeg + nn.toNatClampNeg)) dd → Wk p l e R m args below meth c own bytes maxL Z I s' T' L cells slots h' → Go p e below G (T'.setTop (mkF m pc' Ls S))) : Go p e below G (T.setTop (mkF m pc Ls (.int nn :: .int dp :: .ref b :: .int sp :: .ref a :: S))) := by
  subst hp
  obtain ⟨T', h', L, X', e', N', K', A', st⟩ := cpA D.st D.ex D.wm D.ow w1 w2 w3 w4 D.eq A B (Or.inl ⟨rfl, hty⟩) h1 h2 h3 h4 h5 hus hl N ge (g := mkF m pc Ls (.int nn :: .int dp :: .ref b :: .int sp :: .ref a :: S)) rfl (by rw [D.ml]; exact hsz) rfl (hb D.cb hd) hf (by simpa using hW) hlo
  exact Go.mono st (hr T' h' L N' K' A' (D.mk' X' e' (hI h' K')))
theorem g_callSp (D : Wk p l e R m args below meth c own bytes maxL Z I s' T locs cells slots h) (pc' : Nat) {index : Nat} {y : MethodName} {bz : ByteArray} {mL : Nat} {ret' : Option FieldType} {W ck sk : Nat} {as' : Array Value} {Pv : Option Value → Prop} (w1 : (Cond.methodLink own index y).before a0 Z = true) (w2 : (Cond.static y).before a0 Z = true) (w3 : (Cond.initialized y.cls).before a0 Z = true) (w4 : (Cond.code y bz mL ret').before a0 Z = true) (hy : y.cls ≠ "java/lang/invoke/MethodHandle" ∧ y.cls ≠ "java/lang/invoke/VarHandle")
    (K : Back l R p e below s' args y 3 W (fun A a => a = as' ∧ A.U.heap = h ∧ A.cells + ck ≤ R.cells ∧ A.slots + sk ≤ R.slots) (fun A _ v B => ∃ L, (Pv v ∧ L = [] ∧ B.U.heap = h) ∧ B.locs = A.locs ++ L ∧ B.cells = A.cells + ck ∧ B.slots = A.slots + sk)) (hsz : Ls.size = maxL) (argsL : List Value) (has : argsL.toArray = as') (hlen : ∀ sig, parseMethodDescriptor y.desc = some sig → argsL.length = sig.parameters.length) {S0 : List Value} (hst : S0 = argsL.reverse ++ S) (hW : (S.map fun v => v.category).sum ≤ W) (hc : cells + ck ≤ R.cells) (hl : slots + sk ≤ R.slots) (hd : decode bytes pc = .ok (.invokestatic index, 3)) (hp : pc + 3 = pc')
    (hr : ∀ v T', Pv v → Wk p l e R m args below meth c own bytes maxL Z I s' T' locs (cells + ck) (slots + sk) h → Go p e below G (T'.setTop (mkF m pc' Ls (v.toList ++ S)))) : Go p e below G (T.setTop (mkF m pc Ls S0)) := by
  refine g_callS D pc' (Q := fun v h' L => Pv v ∧ L = [] ∧ h' = h) w1 w2 w3 w4 hy K hsz argsL has hlen hst hW hc hl (fun v h' L q => q.2.2 ▸ D.iv) hd hp ?_
  intro v T' h' L q D'
  obtain ⟨q1, q2, q3⟩ := q
  subst q2 q3
  rw [List.append_nil] at D'
  exact hr v T' q1 D'
theorem g_callVp (D : Wk p l e R m args below meth c own bytes maxL Z I s' T locs cells slots h) (pc' : Nat) {index : Nat} {y z : MethodName} {C : String} {W ck sk : Nat} {as' : Array Value} {Pv : Option Value → Prop} (w1 : (Cond.methodLink own index y).before a0 Z = true) (w2 : (Cond.declares y).before a0 Z = true) (hnf : NotFace s' y) (w4 : (Cond.selects C y z).before a0 Z = true) (w5 : (Cond.instanceMethod z).before a0 Z = true) (hy : y.cls ≠ "java/lang/invoke/MethodHandle" ∧ y.cls ≠ "java/lang/invoke/VarHandle")
    (K : Back l R p e below s' args z 3 W (fun A a => a = as' ∧ A.U.heap = h ∧ A.cells + ck ≤ R.cells ∧ A.slots + sk ≤ R.slots) (fun A _ v B => ∃ L, (Pv v ∧ L = [] ∧ B.U.heap = h) ∧ B.locs = A.locs ++ L ∧ B.cells = A.cells + ck ∧ B.slots = A.slots + sk)) {b : Addr} (E : Exa Z h b C) (hsz : Ls.size = maxL) (argsL : List Value) (has : (.ref b :: argsL).toArray = as') (hlen : ∀ sig, parseMethodDescriptor y.desc = some sig → argsL.length = sig.parameters.length) {S0 : List Value} (hst : S0 = argsL.reverse ++ .ref b :: S) (hW : (S.map fun v => v.category).sum ≤ W) (hc : cells + ck ≤ R.cells) (hl : slots + sk ≤ R.slots) (hd : decode bytes pc = .ok (.invokevirtual index, 3)) (hp : pc + 3 = pc')
    (hr : ∀ v T', Pv v → Wk p l e R m args below meth c own bytes maxL Z I s' T' locs (cells + ck) (slots + sk) h → Go p e below G (T'.setTop (mkF m pc' Ls (v.toList ++ S)))) : Go p e below G (T.setTop (mkF m pc Ls S0)) := by
  refine g_callV D pc' (Q := fun v h' L => Pv v ∧ L = [] ∧ h' = h) w1 w2 hnf w4 w5 hy K E hsz argsL has hlen hst hW hc hl (fun v h' L q => q.2.2 ▸ D.iv) hd hp ?_
  intro v T' h' L q D'
  obtain ⟨q1, q2, q3⟩ := q
  subst q2 q3
  rw [List.append_nil] at D'
  exact hr v T' q1 D'
theorem g_callIp (D : Wk p l e R m args below meth c own bytes maxL Z I s' T locs cells slots h) (pc' : Nat) {index count : Nat} {y z : MethodName} {C : String} {W ck sk : Nat} {as' : Array Value} {Pv : Option Value → Prop} (w1 : (Cond.methodLink own index y).before a0 Z = true) (w2 : (Cond.declares y).before a0 Z = true) (w3 : (Cond.interfaceMethod y.cls y.cls y.name y.desc).before a0 Z = true) (w4 : (Cond.selects C y z).before a0 Z = true) (w5 : (Cond.instanceMethod z).before a0 Z = true) (w6 : (Cond.publicMethod z).before a0 Z = true) (w7 : (Cond.unhidden C y.name y.desc).before a0 Z = true) (w8 : (Cond.castable C y.cls).before a0 Z = true) (hy : y.cls ≠ "java/lang/invoke/MethodHandle" ∧ y.cls ≠ "java/lang/invoke/VarHandle")
    (K : Back l R p e below s' args z 5 W (fun A a => a = as' ∧ A.U.heap = h ∧ A.cells + ck ≤ R.cells ∧ A.slots + sk ≤ R.slots) (fun A _ v B => ∃ L, (Pv v ∧ L = [] ∧ B.U.heap = h) ∧ B.locs = A.locs ++ L ∧ B.cells = A.cells + ck ∧ B.slots = A.slots + sk)) {b : Addr} (E : Exa Z h b C) (hsz : Ls.size = maxL) (argsL : List Value) (has : (.ref b :: argsL).toArray = as') (hlen : ∀ sig, parseMethodDescriptor y.desc = some sig → argsL.length = sig.parameters.length) {S0 : List Value} (hst : S0 = argsL.reverse ++ .ref b :: S) (hW : (S.map fun v => v.category).sum ≤ W) (hc : cells + ck ≤ R.cells) (hl : slots + sk ≤ R.slots) (hd : decode bytes pc = .ok (.invokeinterface index count, 5)) (hp : pc + 5 = pc')
    (hr : ∀ v T', Pv v → Wk p l e R m args below meth c own bytes maxL Z I s' T' locs (cells + ck) (slots + sk) h → Go p e below G (T'.setTop (mkF m pc' Ls (v.toList ++ S)))) : Go p e below G (T.setTop (mkF m pc Ls S0)) := by
  subst hp hst
  obtain ⟨cq, kq, qa, qb, qc⟩ := isOf D.wm D.eq E
  obtain ⟨v, _, ⟨T', L', k', n'⟩, -, X', ⟨L, hQ, l', y', z'⟩, st⟩ := D.st.interfaceBack D.ex (xi := y) (y := z) D.ow (mvT D.wm w1) (mvT D.wm w2) (mvT D.wm w3 (by simp [Cond.onTables, Cond.keepsFace, Cond.keeps, Cond.steady, Cond.faceAtom]; exact hy)) (mvT D.wm w4) (mvT D.wm w5) (mvT D.wm w6) (mvT D.wm w7) (mvT D.wm w8) hy K qa qb qc (g := mkF m pc Ls (argsL.reverse ++ .ref b :: S)) rfl (by rw [D.ml]; exact hsz) (Steps.refl _) (argsL := argsL) (rest := S) hlen rfl (by simpa using hW) (hb D.cb hd) (fun _ _ => ⟨has, D.eq, hc, hl⟩)
  dsimp only at X' l' y' z' st hQ
  subst l' y' z'
  obtain ⟨q1, q2, q3⟩ := hQ
  subst q2
  rw [List.append_nil] at X'
  exact Go.mono (fun t k => st.trans k) (hr v T' q1 (D.mk' X' q3 D.iv))
theorem clt_t {x y : Int64} (h : x < y) : XT.cmpL x y < 0 := by have := Int64.lt_iff_toInt_lt.mp h; unfold XT.cmpL; split <;> (try split) <;> simp_all [Int64.lt_iff_toInt_lt, ← Int64.toInt_inj] <;> omega
theorem clt_f {x y : Int64} (h : ¬ x < y) : ¬ XT.cmpL x y < 0 := by unfold XT.cmpL; split <;> (try split) <;> simp_all [Int64.lt_iff_toInt_lt, ← Int64.toInt_inj] <;> omega
theorem cgt_t {x y : Int64} (h : y < x) : 0 < XT.cmpL x y := by unfold XT.cmpL; split <;> (try split) <;> simp_all [Int64.lt_iff_toInt_lt, ← Int64.toInt_inj] <;> omega
theorem cgt_f {x y : Int64} (h : ¬ y < x) : ¬ 0 < XT.cmpL x y := by unfold XT.cmpL; split <;> (try split) <;> simp_all [Int64.lt_iff_toInt_lt, ← Int64.toInt_inj] <;> omega
theorem ceq_t {x y : Int64} (h : x = y) : XT.cmpL x y = 0 := by unfold XT.cmpL; split <;> (try split) <;> simp_all [Int64.lt_iff_toInt_lt, ← Int64.toInt_inj] <;> omega
theorem ceq_f {x y : Int64} (h : ¬ x = y) : ¬ XT.cmpL x y = 0 := by unfold XT.cmpL; split <;> (try split) <;> simp_all [Int64.lt_iff_toInt_lt, ← Int64.toInt_inj] <;> omega
/-- the invariant of a walk that loads no literal -/
def NI : State → Heap → Prop := fun _ _ => True
/-- what a walk that loads no literal ends in -/
def NG (s : State) (Q : Option Value → Heap → List Loc → Prop) (ck sk : Nat) : Outcome → State → Prop := fun o U' => ∃ v L, o = .returned v ∧ Q v U'.heap L ∧ FrameEnd s o U' L ck sk
variable {Q : Option Value → Heap → List Loc → Prop} {ck sk : Nat}
theorem r_gen (D : Wk p l e R m args below meth c own bytes maxL Z I s' T locs cells slots h) {v : Option Value} (hv : meth.sig.returnType = none → v = none) (hlk : meth.locks = false) (hst : ∀ fs, (∀ (f : JFrame) (acts : List Action), f.method = m → f.locked = none → f.entered = [] → (doReturn e (T.setTop f) acts v).1 = T.setFrames fs) → Steps p.tables e below (T.setTop (mkF m pc Ls S)) (T.setFrames fs)) (hQ : Q v h locs) (hc : cells ≤ ck) (hs : slots ≤ sk) : Go p e below (NG s' Q ck sk) (T.setTop (mkF m pc Ls S)) := by
  obtain ⟨fs, hr, hrun, hended, hW, hsame⟩ := D.st.leave (v := v) hv hlk
  refine ⟨_, _, hst fs hr, hrun, hended, _, _, rfl, ?_, ⟨_, rfl⟩, hW, hsame.mono hc hs⟩
  show Q v T.heap locs
  rw [D.eq]; exact hQ
theorem r_I (D : Wk p l e R m args below meth c own bytes maxL Z I s' T locs cells slots h) {z : Int32} (hret : meth.sig.returnType = some .int) (hlk : meth.locks = false) (hd : decode bytes pc = .ok (.ireturn, 1)) (hQ : Q (some (.int z)) h locs) (hc : cells ≤ ck) (hs : slots ≤ sk) : Go p e below (NG s' Q ck sk) (T.setTop (mkF m pc Ls (.int z :: S))) :=
  r_gen D (fun h => by rw [hret] at h; cases h) hlk (fun fs hr => retOut D.st D.ex hret rfl (Or.inl ⟨rfl, Or.inl rfl, _, rfl⟩) (hb D.cb hd) hr) hQ hc hs
theorem r_N (D : Wk p l e R m args below meth c own bytes maxL Z I s' T locs cells slots h) {t : FieldType} {z : Int32} (hret : meth.sig.returnType = some t) (ht : t = .boolean ∨ t = .byte ∨ t = .char ∨ t = .short) (hlk : meth.locks = false) (hd : decode bytes pc = .ok (.ireturn, 1)) (hQ : Q (some (.int (nar t z))) h locs) (hc : cells ≤ ck) (hs : slots ≤ sk) : Go p e below (NG s' Q ck sk) (T.setTop (mkF m pc Ls (.int z :: S))) :=
  r_gen D (fun h => by rw [hret] at h; cases h) hlk (fun fs hr => retN D.st D.ex hret ht (hb D.cb hd) hr) hQ hc hs
theorem r_A (D : Wk p l e R m args below meth c own bytes maxL Z I s' T locs cells slots h) {t : FieldType} {w : Value} (hret : meth.sig.returnType = some t) (ht : t.isReference = true) (hw : w.isRef = true) (hlk : meth.locks = false) (hd : decode bytes pc = .ok (.areturn, 1)) (hQ : Q (some w) h locs) (hc : cells ≤ ck) (hs : slots ≤ sk) : Go p e below (NG s' Q ck sk) (T.setTop (mkF m pc Ls (w :: S))) :=
  r_gen D (fun h => by rw [hret] at h; cases h) hlk (fun fs hr => retOut D.st D.ex hret (by cases t <;> first | (cases ht; done) | rfl) (Or.inr (Or.inr (Or.inr (Or.inr ⟨rfl, ht, hw⟩)))) (hb D.cb hd) hr) hQ hc hs
theorem r_J (D : Wk p l e R m args below meth c own bytes maxL Z I s' T locs cells slots h) {z : Int64} (hret : meth.sig.returnType = some .long) (hlk : meth.locks = false) (hd : decode bytes pc = .ok (.lreturn, 1)) (hQ : Q (some (.long z)) h locs) (hc : cells ≤ ck) (hs : slots ≤ sk) : Go p e below (NG s' Q ck sk) (T.setTop (mkF m pc Ls (.long z :: S))) :=
  r_gen D (fun h => by rw [hret] at h; cases h) hlk (fun fs hr => retOut D.st D.ex hret rfl (Or.inr (Or.inl ⟨rfl, rfl, _, rfl⟩)) (hb D.cb hd) hr) hQ hc hs
theorem r_V (D : Wk p l e R m args below meth c own bytes maxL Z I s' T locs cells slots h) (hret : meth.sig.returnType = none) (hlk : meth.locks = false) (hd : decode bytes pc = .ok (.return_, 1)) (hQ : Q none h locs) (hc : cells ≤ ck) (hs : slots ≤ sk) : Go p e below (NG s' Q ck sk) (T.setTop (mkF m pc Ls [])) :=
  r_gen D (fun _ => rfl) hlk (fun fs hr => D.st.returnOut D.ex hret (hb D.cb hd) hr) hQ hc hs
end Walk
/-- a contract: called with these arguments at this heap it returns, and Q tells what it leaves -/
abbrev Con (l : Launch) (y : MethodName) (bytes : ByteArray) (maxL : Nat) (ret : Option FieldType) (ws : List Jvm.Cond) (rm : Room) (Z : State) (as' : Array Value) (h0 : Heap) (Q : Option Value → Heap → List Loc → Prop) (ck sk : Nat) : Prop :=
  MetFree l y (head1 (Jvm.Cond.code y bytes maxL ret :: ws) rm) (fun a U => a = as' ∧ Z.Warmed39 U.vm ∧ U.heap = h0) (fun _ _ _ _ _ => True) (fun _ U o U' => ∃ v L, o = .returned v ∧ Q v U'.heap L ∧ FrameEnd U o U' L ck sk)
theorem enter {l : Launch} {y : MethodName} {bytes : ByteArray} {maxL : Nat} {ret : Option FieldType} {ws : List Jvm.Cond} {rm : Room} {Z : State} {as' : Array Value} {h0 : Heap} {Q : Option Value → Heap → List Loc → Prop} {ck sk : Nat} (hpl : plainFor y = true)
    (k : ∀ p e s m below meth c s₁, meth.name = y.name → meth.sig.returnType = ret → meth.locks = false → Wk p l e rm m as' below meth c y.cls bytes maxL Z NI s s₁ [] 0 0 h0 → Go p e below (NG s Q ck sk) (s₁.setTop (entryFrame m as' maxL))) :
    Con l y bytes maxL ret ws rm Z as' h0 Q ck sk := by
  refine MetFree.of_bodySF hpl hisR ?_
  intro p e s m args below meth c s₁ Bd hml0 hP hK
  obtain ⟨rfl, hZ, hh⟩ := hP
  have X0 : Stand p l e rm s m _ below meth c s₁ [] 0 0 := Stand.of_body Bd
  exact k p e s m below meth c s₁ (name_of_methodNamed Bd.named Bd.method).1 Bd.returns Bd.notSynchronized ⟨X0, by rw [← hh, Bd.state]; rfl, hZ, findClass_of_methodNamed Bd.named, Bd.exec, Bd.bytes, hml0, trivial⟩
theorem Con.back {l : Launch} {y : MethodName} {bytes : ByteArray} {maxL : Nat} {ret : Option FieldType} {rm : Room} {Z : State} {as' : Array Value} {h0 : Heap} {Q : Option Value → Heap → List Loc → Prop} (hM : Con l y bytes maxL ret [] rm Z as' h0 Q rm.cells rm.slots) {p : Program} {e : Env} {R : Room} {m : MethodId} {args : Array Value} {below : List Frame} {meth : Method} {c : Code} {own : String} {bz : ByteArray} {mL : Nat} {I : State → Heap → Prop} {s' T : State} {locs : List Loc} {cells slots : Nat} {h : Heap} {a0 : Array Value}
    (D : Wk p l e R m args below meth c own bz mL Z I s' T locs cells slots h) (W : Nat) {len : Nat} (wc : (Cond.code y bytes maxL ret).before a0 Z = true) (wz : (Cond.initialized y.cls).before a0 Z = true) (hf : rm.frames + 1 ≤ R.frames) (hl : W + (maxL + 11) + rm.locals ≤ R.locals) :
    Back l R p e below s' args y len W (fun A a => a = as' ∧ A.U.heap = h0 ∧ A.cells + rm.cells ≤ R.cells ∧ A.slots + rm.slots ≤ R.slots) (fun A _ v B => ∃ L, Q v B.U.heap L ∧ B.locs = A.locs ++ L ∧ B.cells = A.cells + rm.cells ∧ B.slots = A.slots + rm.slots) :=
  backOf hM D.wm wc wz hf hl
theorem eqr_v {args : Array Value} {Z : State} {X F : Term} {idx : List Nat} {y : Addr} (hF : F.eval args Z none idx Z = some (.ref y)) (h : (Cond.eq X F).value args Z none Z idx = some true) : X.eval args Z none idx Z = some (.ref y) := by
  obtain ⟨x, y', e1, e2, k1, k2⟩ := cmp_v (Or.inl h)
  cases hF.symm.trans e2
  have hx : x.isRef = true := k2.2
  have q := gotT (eq_R e1 hF hx rfl) h
  rw [e1, q]
theorem arv_start {Z : State} {args : Array Value} {t : Term} {a : Addr} {ty : FieldType} {n : Int32} {vs : List Value} {dv : Value} (hf : Fit Z) (ev : t.eval args Z none [] Z = some (.ref a)) (ha : (Cond.arrayOf t ty).value args Z none Z [] = some true) (hl : (Cond.eq (.length t) (.int n)).value args Z none Z [] = some true) (hn : ¬ n < 0) (hk : n.toNatClampNeg = vs.length) (H : ∀ cl : Cell, Z.heap[a]? = some cl → HasL cl 0 vs) : ∃ k, Arv Z Z.heap a k ty n vs dv := by
  obtain ⟨cl, A⟩ := Arr.start ev ha
  have q := eqv_i (Term.int_eval (n)) hl
  have q2 : cl.slots.size < 2 ^ 31 ∧ cl.slots.size.toInt32 = n := by
    have q3 := A.fin (Vm.Alike.refl _)
    simp only [Term.eval, ev, q3, Option.bind_eq_bind, Option.bind_some] at q
    split at q
    · rename_i q4; exact ⟨q4, by simpa using q⟩
    · cases q
  exact ⟨_, Arv.start hf A q2.1 q2.2 hn hk (H cl A.1)⟩
theorem w_0 : (Jvm.Cond.constant "com/example/twelfths/twelfths/input/PlainDecimalIsPlainPinLaw" (7 : Nat) (2147483647 : Int32)) ∈ tables_1 := List.mem_of_getElem? (i := 0) rfl
theorem w_1 : (Jvm.Cond.methodLink "com/example/twelfths/twelfths/input/PlainDecimalIsPlainPinLaw" (8 : Nat) ({ cls := "com/example/twelfths/twelfths/input/PlainDecimalIsPlainPinLaw", name := "draw", desc := "(I)C" } : Jvm.MethodName)) ∈ tables_1 := List.mem_of_getElem? (i := 1) rfl
theorem w_2 : (Jvm.Cond.static ({ cls := "com/example/twelfths/twelfths/input/PlainDecimalIsPlainPinLaw", name := "draw", desc := "(I)C" } : Jvm.MethodName)) ∈ tables_1 := List.mem_of_getElem? (i := 2) rfl
theorem w_3 : (Jvm.Cond.initialized "com/example/twelfths/twelfths/input/PlainDecimalIsPlainPinLaw") ∈ tables_1 := List.mem_of_getElem? (i := 3) rfl
theorem w_4 : (Jvm.Cond.code ({ cls := "com/example/twelfths/twelfths/input/PlainDecimalIsPlainPinLaw", name := "draw", desc := "(I)C" } : Jvm.MethodName) method_3_code (3 : Nat) (Option.some Jvm.ClassFile.FieldType.char)) ∈ tables_1 := List.mem_of_getElem? (i := 4) rfl
theorem w_5 : (Jvm.Cond.constant "com/example/twelfths/twelfths/input/PlainDecimalIsPlainPinLaw" (35 : Nat) (65535 : Int32)) ∈ tables_1 := List.mem_of_getElem? (i := 5) rfl
theorem w_6 : (Jvm.Cond.classLink "com/example/twelfths/twelfths/input/PlainDecimalIsPlainPinLaw" (14 : Nat) "java/lang/String") ∈ tables_1 := List.mem_of_getElem? (i := 6) rfl
theorem w_7 : (Jvm.Cond.instantiable "java/lang/String" (4 : Nat)) ∈ tables_1 := List.mem_of_getElem? (i := 7) rfl
theorem w_8 : (Jvm.Cond.initialized "java/lang/String") ∈ tables_1 := List.mem_of_getElem? (i := 8) rfl
theorem w_9 : (Jvm.Cond.arrayClass Jvm.ClassFile.FieldType.char) ∈ tables_1 := List.mem_of_getElem? (i := 9) rfl
theorem w_10 : (Jvm.Cond.methodLink "com/example/twelfths/twelfths/input/PlainDecimalIsPlainPinLaw" (16 : Nat) ({ cls := "java/lang/String", name := "<init>", desc := "([C)V" } : Jvm.MethodName)) ∈ tables_1 := List.mem_of_getElem? (i := 10) rfl
theorem w_11 : (Jvm.Cond.instanceMethod ({ cls := "java/lang/String", name := "<init>", desc := "([C)V" } : Jvm.MethodName)) ∈ tables_1 := List.mem_of_getElem? (i := 11) rfl
theorem w_12 : (Jvm.Cond.code ({ cls := "java/lang/String", name := "<init>", desc := "([C)V" } : Jvm.MethodName) jdk_42_method_3_code (2 : Nat) (Option.none : Option Jvm.ClassFile.FieldType)) ∈ tables_1 := List.mem_of_getElem? (i := 12) rfl
theorem w_13 : (Jvm.Cond.methodLink "java/lang/String" (27 : Nat) ({ cls := "java/lang/String", name := "<init>", desc := "([CIILjava/lang/Void;)V" } : Jvm.MethodName)) ∈ tables_1 := List.mem_of_getElem? (i := 13) rfl
theorem w_14 : (Jvm.Cond.instanceMethod ({ cls := "java/lang/String", name := "<init>", desc := "([CIILjava/lang/Void;)V" } : Jvm.MethodName)) ∈ tables_1 := List.mem_of_getElem? (i := 14) rfl
theorem w_16 : (Jvm.Cond.code ({ cls := "java/lang/String", name := "<init>", desc := "([CIILjava/lang/Void;)V" } : Jvm.MethodName) jdk_42_method_149_code (6 : Nat) (Option.none : Option Jvm.ClassFile.FieldType)) ∈ tables_1 := List.mem_of_getElem? (i := 16) rfl
theorem w_17 : (Jvm.Cond.methodLink "java/lang/String" (1 : Nat) ({ cls := "java/lang/Object", name := "<init>", desc := "()V" } : Jvm.MethodName)) ∈ tables_1 := List.mem_of_getElem? (i := 17) rfl
theorem w_18 : (Jvm.Cond.instanceMethod ({ cls := "java/lang/Object", name := "<init>", desc := "()V" } : Jvm.MethodName)) ∈ tables_1 := List.mem_of_getElem? (i := 18) rfl
theorem w_19 : (Jvm.Cond.code ({ cls := "java/lang/Object", name := "<init>", desc := "()V" } : Jvm.MethodName) object_method_1_code (1 : Nat) (Option.none : Option Jvm.ClassFile.FieldType)) ∈ tables_1 := List.mem_of_getElem? (i := 19) rfl
theorem w_20 : (Jvm.Cond.stringLink "java/lang/String" (7 : Nat) "") ∈ tables_1 := List.mem_of_getElem? (i := 20) rfl
theorem w_21 : (Jvm.Cond.arrayClass Jvm.ClassFile.FieldType.byte) ∈ tables_1 := List.mem_of_getElem? (i := 21) rfl
theorem w_22 : (Jvm.Cond.laysFinal "java/lang/String" "java/lang/String" "value" "[B") ∈ tables_1 := List.mem_of_getElem? (i := 22) rfl
theorem w_23 : (Jvm.Cond.laysFinal "java/lang/String" "java/lang/String" "coder" "B") ∈ tables_1 := List.mem_of_getElem? (i := 23) rfl
theorem w_26 : (Jvm.Cond.fieldLink "java/lang/String" (9 : Nat) "java/lang/String" "value" "[B") ∈ tables_1 := List.mem_of_getElem? (i := 26) rfl
theorem w_27 : (Jvm.Cond.fieldLink "java/lang/String" (15 : Nat) "java/lang/String" "coder" "B") ∈ tables_1 := List.mem_of_getElem? (i := 27) rfl
theorem w_28 : (Jvm.Cond.methodLink "com/example/twelfths/twelfths/input/PlainDecimalIsPlainPinLaw" (19 : Nat) ({ cls := "com/example/twelfths/twelfths/input/PlainDecimalIsPlainPinLaw", name := "dig", desc := "(CIII)I" } : Jvm.MethodName)) ∈ tables_1 := List.mem_of_getElem? (i := 28) rfl
theorem w_29 : (Jvm.Cond.static ({ cls := "com/example/twelfths/twelfths/input/PlainDecimalIsPlainPinLaw", name := "dig", desc := "(CIII)I" } : Jvm.MethodName)) ∈ tables_1 := List.mem_of_getElem? (i := 29) rfl
theorem w_30 : (Jvm.Cond.code ({ cls := "com/example/twelfths/twelfths/input/PlainDecimalIsPlainPinLaw", name := "dig", desc := "(CIII)I" } : Jvm.MethodName) method_6_code (4 : Nat) (Option.some Jvm.ClassFile.FieldType.int)) ∈ tables_1 := List.mem_of_getElem? (i := 30) rfl
theorem w_31 : (Jvm.Cond.methodLink "com/example/twelfths/twelfths/input/PlainDecimalIsPlainPinLaw" (36 : Nat) ({ cls := "com/example/twelfths/twelfths/input/PlainDecimalIsPlainPinLaw", name := "in", desc := "(III)Z" } : Jvm.MethodName)) ∈ tables_1 := List.mem_of_getElem? (i := 31) rfl
theorem w_32 : (Jvm.Cond.static ({ cls := "com/example/twelfths/twelfths/input/PlainDecimalIsPlainPinLaw", name := "in", desc := "(III)Z" } : Jvm.MethodName)) ∈ tables_1 := List.mem_of_getElem? (i := 32) rfl
theorem w_33 : (Jvm.Cond.code ({ cls := "com/example/twelfths/twelfths/input/PlainDecimalIsPlainPinLaw", name := "in", desc := "(III)Z" } : Jvm.MethodName) method_4_code (3 : Nat) (Option.some Jvm.ClassFile.FieldType.boolean)) ∈ tables_1 := List.mem_of_getElem? (i := 33) rfl
theorem w_34 : (Jvm.Cond.methodLink "com/example/twelfths/twelfths/input/PlainDecimalIsPlainPinLaw" (23 : Nat) ({ cls := "com/example/twelfths/twelfths/input/PlainDecimalIsPlainPinLaw", name := "pt", desc := "(CIII)I" } : Jvm.MethodName)) ∈ tables_1 := List.mem_of_getElem? (i := 34) rfl
theorem w_35 : (Jvm.Cond.static ({ cls := "com/example/twelfths/twelfths/input/PlainDecimalIsPlainPinLaw", name := "pt", desc := "(CIII)I" } : Jvm.MethodName)) ∈ tables_1 := List.mem_of_getElem? (i := 35) rfl
theorem w_36 : (Jvm.Cond.code ({ cls := "com/example/twelfths/twelfths/input/PlainDecimalIsPlainPinLaw", name := "pt", desc := "(CIII)I" } : Jvm.MethodName) method_7_code (4 : Nat) (Option.some Jvm.ClassFile.FieldType.int)) ∈ tables_1 := List.mem_of_getElem? (i := 36) rfl
theorem w_37 : (Jvm.Cond.methodLink "com/example/twelfths/twelfths/input/PlainDecimalIsPlainPinLaw" (26 : Nat) ({ cls := "com/example/twelfths/twelfths/input/PlainDecimalIsPlainPinLaw", name := "other", desc := "(CIII)I" } : Jvm.MethodName)) ∈ tables_1 := List.mem_of_getElem? (i := 37) rfl
theorem w_38 : (Jvm.Cond.static ({ cls := "com/example/twelfths/twelfths/input/PlainDecimalIsPlainPinLaw", name := "other", desc := "(CIII)I" } : Jvm.MethodName)) ∈ tables_1 := List.mem_of_getElem? (i := 38) rfl
theorem w_39 : (Jvm.Cond.code ({ cls := "com/example/twelfths/twelfths/input/PlainDecimalIsPlainPinLaw", name := "other", desc := "(CIII)I" } : Jvm.MethodName) method_8_code (4 : Nat) (Option.some Jvm.ClassFile.FieldType.int)) ∈ tables_1 := List.mem_of_getElem? (i := 39) rfl
theorem w_40 : (Jvm.Cond.methodLink "com/example/twelfths/twelfths/input/PlainDecimalIsPlainPinLaw" (29 : Nat) ({ cls := "com/example/twelfths/twelfths/input/PlainDecimal", name := "isPlain", desc := "(Ljava/lang/CharSequence;)Z" } : Jvm.MethodName)) ∈ tables_1 := List.mem_of_getElem? (i := 40) rfl
theorem w_41 : (Jvm.Cond.static ({ cls := "com/example/twelfths/twelfths/input/PlainDecimal", name := "isPlain", desc := "(Ljava/lang/CharSequence;)Z" } : Jvm.MethodName)) ∈ tables_1 := List.mem_of_getElem? (i := 41) rfl
theorem w_42 : (Jvm.Cond.initialized "com/example/twelfths/twelfths/input/PlainDecimal") ∈ tables_1 := List.mem_of_getElem? (i := 42) rfl
theorem w_43 : (Jvm.Cond.code ({ cls := "com/example/twelfths/twelfths/input/PlainDecimal", name := "isPlain", desc := "(Ljava/lang/CharSequence;)Z" } : Jvm.MethodName) prog_29_method_2_code (6 : Nat) (Option.some Jvm.ClassFile.FieldType.boolean)) ∈ tables_1 := List.mem_of_getElem? (i := 43) rfl
theorem w_44 : (Jvm.Cond.methodLink "com/example/twelfths/twelfths/input/PlainDecimal" (7 : Nat) ({ cls := "java/lang/CharSequence", name := "length", desc := "()I" } : Jvm.MethodName)) ∈ tables_1 := List.mem_of_getElem? (i := 44) rfl
theorem w_45 : (Jvm.Cond.declares ({ cls := "java/lang/CharSequence", name := "length", desc := "()I" } : Jvm.MethodName)) ∈ tables_1 := List.mem_of_getElem? (i := 45) rfl
theorem w_46 : (Jvm.Cond.interfaceMethod "java/lang/CharSequence" "java/lang/CharSequence" "length" "()I") ∈ tables_1 := List.mem_of_getElem? (i := 46) rfl
theorem w_47 : (Jvm.Cond.selects "java/lang/String" ({ cls := "java/lang/CharSequence", name := "length", desc := "()I" } : Jvm.MethodName) ({ cls := "java/lang/String", name := "length", desc := "()I" } : Jvm.MethodName)) ∈ tables_1 := List.mem_of_getElem? (i := 47) rfl
theorem w_48 : (Jvm.Cond.instanceMethod ({ cls := "java/lang/String", name := "length", desc := "()I" } : Jvm.MethodName)) ∈ tables_1 := List.mem_of_getElem? (i := 48) rfl
theorem w_49 : (Jvm.Cond.publicMethod ({ cls := "java/lang/String", name := "length", desc := "()I" } : Jvm.MethodName)) ∈ tables_1 := List.mem_of_getElem? (i := 49) rfl
theorem w_50 : (Jvm.Cond.unhidden "java/lang/String" "length" "()I") ∈ tables_1 := List.mem_of_getElem? (i := 50) rfl
theorem w_51 : (Jvm.Cond.castable "java/lang/String" "java/lang/CharSequence") ∈ tables_1 := List.mem_of_getElem? (i := 51) rfl
theorem w_58 : (Jvm.Cond.fieldLink "java/lang/String" (38 : Nat) "java/lang/String" "COMPACT_STRINGS" "Z") ∈ tables_1 := List.mem_of_getElem? (i := 58) rfl
theorem w_59 : (Jvm.Cond.methodLink "java/lang/String" (177 : Nat) ({ cls := "java/lang/StringUTF16", name := "compress", desc := "([CII)[B" } : Jvm.MethodName)) ∈ tables_1 := List.mem_of_getElem? (i := 59) rfl
theorem w_60 : (Jvm.Cond.static ({ cls := "java/lang/StringUTF16", name := "compress", desc := "([CII)[B" } : Jvm.MethodName)) ∈ tables_1 := List.mem_of_getElem? (i := 60) rfl
theorem w_61 : (Jvm.Cond.initialized "java/lang/StringUTF16") ∈ tables_1 := List.mem_of_getElem? (i := 61) rfl
theorem w_62 : (Jvm.Cond.code ({ cls := "java/lang/StringUTF16", name := "compress", desc := "([CII)[B" } : Jvm.MethodName) jdk_52_method_16_code (6 : Nat) (Option.some (Jvm.ClassFile.FieldType.array Jvm.ClassFile.FieldType.byte))) ∈ tables_1 := List.mem_of_getElem? (i := 62) rfl
theorem w_63 : (Jvm.Cond.methodLink "java/lang/StringUTF16" (115 : Nat) ({ cls := "java/lang/StringUTF16", name := "compress", desc := "([CI[BII)I" } : Jvm.MethodName)) ∈ tables_1 := List.mem_of_getElem? (i := 63) rfl
theorem w_64 : (Jvm.Cond.static ({ cls := "java/lang/StringUTF16", name := "compress", desc := "([CI[BII)I" } : Jvm.MethodName)) ∈ tables_1 := List.mem_of_getElem? (i := 64) rfl
theorem w_65 : (Jvm.Cond.code ({ cls := "java/lang/StringUTF16", name := "compress", desc := "([CI[BII)I" } : Jvm.MethodName) jdk_52_method_21_code (7 : Nat) (Option.some Jvm.ClassFile.FieldType.int)) ∈ tables_1 := List.mem_of_getElem? (i := 65) rfl
theorem w_66 : (Jvm.Cond.methodLink "java/lang/String" (47 : Nat) ({ cls := "java/lang/StringUTF16", name := "coderFromArrayLen", desc := "([BI)B" } : Jvm.MethodName)) ∈ tables_1 := List.mem_of_getElem? (i := 66) rfl
theorem w_67 : (Jvm.Cond.static ({ cls := "java/lang/StringUTF16", name := "coderFromArrayLen", desc := "([BI)B" } : Jvm.MethodName)) ∈ tables_1 := List.mem_of_getElem? (i := 67) rfl
theorem w_68 : (Jvm.Cond.code ({ cls := "java/lang/StringUTF16", name := "coderFromArrayLen", desc := "([BI)B" } : Jvm.MethodName) jdk_52_method_15_code (2 : Nat) (Option.some Jvm.ClassFile.FieldType.byte)) ∈ tables_1 := List.mem_of_getElem? (i := 68) rfl
theorem w_69 : (Jvm.Cond.methodLink "com/example/twelfths/twelfths/input/PlainDecimalIsPlainPinLaw" (40 : Nat) ({ cls := "com/example/twelfths/twelfths/input/PlainDecimalIsPlainPinLaw", name := "isDigit", desc := "(C)Z" } : Jvm.MethodName)) ∈ tables_1 := List.mem_of_getElem? (i := 69) rfl
theorem w_70 : (Jvm.Cond.static ({ cls := "com/example/twelfths/twelfths/input/PlainDecimalIsPlainPinLaw", name := "isDigit", desc := "(C)Z" } : Jvm.MethodName)) ∈ tables_1 := List.mem_of_getElem? (i := 70) rfl
theorem w_71 : (Jvm.Cond.code ({ cls := "com/example/twelfths/twelfths/input/PlainDecimalIsPlainPinLaw", name := "isDigit", desc := "(C)Z" } : Jvm.MethodName) method_5_code (1 : Nat) (Option.some Jvm.ClassFile.FieldType.boolean)) ∈ tables_1 := List.mem_of_getElem? (i := 71) rfl
theorem w_72 : (Jvm.Cond.methodLink "com/example/twelfths/twelfths/input/PlainDecimal" (13 : Nat) ({ cls := "java/lang/CharSequence", name := "charAt", desc := "(I)C" } : Jvm.MethodName)) ∈ tables_1 := List.mem_of_getElem? (i := 72) rfl
theorem w_73 : (Jvm.Cond.declares ({ cls := "java/lang/CharSequence", name := "charAt", desc := "(I)C" } : Jvm.MethodName)) ∈ tables_1 := List.mem_of_getElem? (i := 73) rfl
theorem w_74 : (Jvm.Cond.interfaceMethod "java/lang/CharSequence" "java/lang/CharSequence" "charAt" "(I)C") ∈ tables_1 := List.mem_of_getElem? (i := 74) rfl
theorem w_75 : (Jvm.Cond.selects "java/lang/String" ({ cls := "java/lang/CharSequence", name := "charAt", desc := "(I)C" } : Jvm.MethodName) ({ cls := "java/lang/String", name := "charAt", desc := "(I)C" } : Jvm.MethodName)) ∈ tables_1 := List.mem_of_getElem? (i := 75) rfl
theorem w_76 : (Jvm.Cond.instanceMethod ({ cls := "java/lang/String", name := "charAt", desc := "(I)C" } : Jvm.MethodName)) ∈ tables_1 := List.mem_of_getElem? (i := 76) rfl
theorem w_77 : (Jvm.Cond.publicMethod ({ cls := "java/lang/String", name := "charAt", desc := "(I)C" } : Jvm.MethodName)) ∈ tables_1 := List.mem_of_getElem? (i := 77) rfl
theorem w_78 : (Jvm.Cond.unhidden "java/lang/String" "charAt" "(I)C") ∈ tables_1 := List.mem_of_getElem? (i := 78) rfl
theorem w_79 : (Jvm.Cond.code ({ cls := "java/lang/String", name := "charAt", desc := "(I)C" } : Jvm.MethodName) jdk_42_method_56_code (2 : Nat) (Option.some Jvm.ClassFile.FieldType.char)) ∈ tables_1 := List.mem_of_getElem? (i := 79) rfl
theorem w_80 : (Jvm.Cond.methodLink "java/lang/String" (492 : Nat) ({ cls := "java/lang/String", name := "isLatin1", desc := "()Z" } : Jvm.MethodName)) ∈ tables_1 := List.mem_of_getElem? (i := 80) rfl
theorem w_81 : (Jvm.Cond.declares ({ cls := "java/lang/String", name := "isLatin1", desc := "()Z" } : Jvm.MethodName)) ∈ tables_1 := List.mem_of_getElem? (i := 81) rfl
theorem w_82 : (Jvm.Cond.instanceMethod ({ cls := "java/lang/String", name := "isLatin1", desc := "()Z" } : Jvm.MethodName)) ∈ tables_1 := List.mem_of_getElem? (i := 82) rfl
theorem w_83 : (Jvm.Cond.selects "java/lang/String" ({ cls := "java/lang/String", name := "isLatin1", desc := "()Z" } : Jvm.MethodName) ({ cls := "java/lang/String", name := "isLatin1", desc := "()Z" } : Jvm.MethodName)) ∈ tables_1 := List.mem_of_getElem? (i := 83) rfl
theorem w_84 : (Jvm.Cond.code ({ cls := "java/lang/String", name := "isLatin1", desc := "()Z" } : Jvm.MethodName) jdk_42_method_154_code (1 : Nat) (Option.some Jvm.ClassFile.FieldType.boolean)) ∈ tables_1 := List.mem_of_getElem? (i := 84) rfl
theorem w_85 : (Jvm.Cond.methodLink "java/lang/String" (495 : Nat) ({ cls := "java/lang/StringLatin1", name := "charAt", desc := "([BI)C" } : Jvm.MethodName)) ∈ tables_1 := List.mem_of_getElem? (i := 85) rfl
theorem w_86 : (Jvm.Cond.static ({ cls := "java/lang/StringLatin1", name := "charAt", desc := "([BI)C" } : Jvm.MethodName)) ∈ tables_1 := List.mem_of_getElem? (i := 86) rfl
theorem w_87 : (Jvm.Cond.initialized "java/lang/StringLatin1") ∈ tables_1 := List.mem_of_getElem? (i := 87) rfl
theorem w_88 : (Jvm.Cond.code ({ cls := "java/lang/StringLatin1", name := "charAt", desc := "([BI)C" } : Jvm.MethodName) jdk_43_method_2_code (2 : Nat) (Option.some Jvm.ClassFile.FieldType.char)) ∈ tables_1 := List.mem_of_getElem? (i := 88) rfl
theorem w_89 : (Jvm.Cond.methodLink "java/lang/StringLatin1" (9 : Nat) ({ cls := "java/lang/String", name := "checkIndex", desc := "(II)V" } : Jvm.MethodName)) ∈ tables_1 := List.mem_of_getElem? (i := 89) rfl
theorem w_90 : (Jvm.Cond.static ({ cls := "java/lang/String", name := "checkIndex", desc := "(II)V" } : Jvm.MethodName)) ∈ tables_1 := List.mem_of_getElem? (i := 90) rfl
theorem w_91 : (Jvm.Cond.code ({ cls := "java/lang/String", name := "checkIndex", desc := "(II)V" } : Jvm.MethodName) jdk_42_method_155_code (2 : Nat) (Option.none : Option Jvm.ClassFile.FieldType)) ∈ tables_1 := List.mem_of_getElem? (i := 91) rfl
theorem w_92 : (Jvm.Cond.fieldLink "java/lang/String" (1053 : Nat) "jdk/internal/util/Preconditions" "SIOOBE_FORMATTER" "Ljava/util/function/BiFunction;") ∈ tables_1 := List.mem_of_getElem? (i := 92) rfl
theorem w_93 : (Jvm.Cond.initialized "jdk/internal/util/Preconditions") ∈ tables_1 := List.mem_of_getElem? (i := 93) rfl
theorem w_94 : (Jvm.Cond.methodLink "java/lang/String" (1059 : Nat) ({ cls := "jdk/internal/util/Preconditions", name := "checkIndex", desc := "(IILjava/util/function/BiFunction;)I" } : Jvm.MethodName)) ∈ tables_1 := List.mem_of_getElem? (i := 94) rfl
theorem w_95 : (Jvm.Cond.static ({ cls := "jdk/internal/util/Preconditions", name := "checkIndex", desc := "(IILjava/util/function/BiFunction;)I" } : Jvm.MethodName)) ∈ tables_1 := List.mem_of_getElem? (i := 95) rfl
theorem w_96 : (Jvm.Cond.code ({ cls := "jdk/internal/util/Preconditions", name := "checkIndex", desc := "(IILjava/util/function/BiFunction;)I" } : Jvm.MethodName) jdk_41_method_11_code (3 : Nat) (Option.some Jvm.ClassFile.FieldType.int)) ∈ tables_1 := List.mem_of_getElem? (i := 96) rfl
theorem w_97 : (Jvm.Cond.methodLink "java/lang/StringUTF16" (119 : Nat) ({ cls := "java/lang/StringUTF16", name := "toBytes", desc := "([CII)[B" } : Jvm.MethodName)) ∈ tables_1 := List.mem_of_getElem? (i := 97) rfl
theorem w_98 : (Jvm.Cond.static ({ cls := "java/lang/StringUTF16", name := "toBytes", desc := "([CII)[B" } : Jvm.MethodName)) ∈ tables_1 := List.mem_of_getElem? (i := 98) rfl
theorem w_99 : (Jvm.Cond.code ({ cls := "java/lang/StringUTF16", name := "toBytes", desc := "([CII)[B" } : Jvm.MethodName) jdk_52_method_14_code (5 : Nat) (Option.some (Jvm.ClassFile.FieldType.array Jvm.ClassFile.FieldType.byte))) ∈ tables_1 := List.mem_of_getElem? (i := 99) rfl
theorem w_100 : (Jvm.Cond.methodLink "java/lang/StringUTF16" (107 : Nat) ({ cls := "java/lang/StringUTF16", name := "newBytesFor", desc := "(I)[B" } : Jvm.MethodName)) ∈ tables_1 := List.mem_of_getElem? (i := 100) rfl
theorem w_101 : (Jvm.Cond.static ({ cls := "java/lang/StringUTF16", name := "newBytesFor", desc := "(I)[B" } : Jvm.MethodName)) ∈ tables_1 := List.mem_of_getElem? (i := 101) rfl
theorem w_102 : (Jvm.Cond.code ({ cls := "java/lang/StringUTF16", name := "newBytesFor", desc := "(I)[B" } : Jvm.MethodName) jdk_52_method_2_code (1 : Nat) (Option.some (Jvm.ClassFile.FieldType.array Jvm.ClassFile.FieldType.byte))) ∈ tables_1 := List.mem_of_getElem? (i := 102) rfl
theorem w_103 : (Jvm.Cond.methodLink "java/lang/StringUTF16" (11 : Nat) ({ cls := "java/lang/StringUTF16", name := "newBytesLength", desc := "(I)I" } : Jvm.MethodName)) ∈ tables_1 := List.mem_of_getElem? (i := 103) rfl
theorem w_104 : (Jvm.Cond.static ({ cls := "java/lang/StringUTF16", name := "newBytesLength", desc := "(I)I" } : Jvm.MethodName)) ∈ tables_1 := List.mem_of_getElem? (i := 104) rfl
theorem w_105 : (Jvm.Cond.code ({ cls := "java/lang/StringUTF16", name := "newBytesLength", desc := "(I)I" } : Jvm.MethodName) jdk_52_method_3_code (1 : Nat) (Option.some Jvm.ClassFile.FieldType.int)) ∈ tables_1 := List.mem_of_getElem? (i := 105) rfl
theorem w_106 : (Jvm.Cond.constant "java/lang/StringUTF16" (20 : Nat) (1073741823 : Int32)) ∈ tables_1 := List.mem_of_getElem? (i := 106) rfl
theorem w_107 : (Jvm.Cond.methodLink "java/lang/StringUTF16" (111 : Nat) ({ cls := "java/lang/StringUTF16", name := "putChar", desc := "([BII)V" } : Jvm.MethodName)) ∈ tables_1 := List.mem_of_getElem? (i := 107) rfl
theorem w_108 : (Jvm.Cond.static ({ cls := "java/lang/StringUTF16", name := "putChar", desc := "([BII)V" } : Jvm.MethodName)) ∈ tables_1 := List.mem_of_getElem? (i := 108) rfl
theorem w_109 : (Jvm.Cond.code ({ cls := "java/lang/StringUTF16", name := "putChar", desc := "([BII)V" } : Jvm.MethodName) jdk_52_method_4_code (3 : Nat) (Option.none : Option Jvm.ClassFile.FieldType)) ∈ tables_1 := List.mem_of_getElem? (i := 109) rfl
theorem w_110 : (Jvm.Cond.fieldLink "java/lang/StringUTF16" (44 : Nat) "java/lang/StringUTF16" "$assertionsDisabled" "Z") ∈ tables_1 := List.mem_of_getElem? (i := 110) rfl
theorem w_111 : (Jvm.Cond.fieldLink "java/lang/StringUTF16" (59 : Nat) "java/lang/StringUTF16" "HI_BYTE_SHIFT" "I") ∈ tables_1 := List.mem_of_getElem? (i := 111) rfl
theorem w_112 : (Jvm.Cond.fieldLink "java/lang/StringUTF16" (63 : Nat) "java/lang/StringUTF16" "LO_BYTE_SHIFT" "I") ∈ tables_1 := List.mem_of_getElem? (i := 112) rfl
theorem w_113 : (Jvm.Cond.methodLink "java/lang/StringUTF16" (71 : Nat) ({ cls := "java/lang/StringUTF16", name := "getChar", desc := "([BI)C" } : Jvm.MethodName)) ∈ tables_1 := List.mem_of_getElem? (i := 113) rfl
theorem w_114 : (Jvm.Cond.static ({ cls := "java/lang/StringUTF16", name := "getChar", desc := "([BI)C" } : Jvm.MethodName)) ∈ tables_1 := List.mem_of_getElem? (i := 114) rfl
theorem w_115 : (Jvm.Cond.code ({ cls := "java/lang/StringUTF16", name := "getChar", desc := "([BI)C" } : Jvm.MethodName) jdk_52_method_5_code (2 : Nat) (Option.some Jvm.ClassFile.FieldType.char)) ∈ tables_1 := List.mem_of_getElem? (i := 115) rfl
theorem w_116 : (Jvm.Cond.methodLink "java/lang/String" (498 : Nat) ({ cls := "java/lang/StringUTF16", name := "charAt", desc := "([BI)C" } : Jvm.MethodName)) ∈ tables_1 := List.mem_of_getElem? (i := 116) rfl
theorem w_117 : (Jvm.Cond.static ({ cls := "java/lang/StringUTF16", name := "charAt", desc := "([BI)C" } : Jvm.MethodName)) ∈ tables_1 := List.mem_of_getElem? (i := 117) rfl
theorem w_118 : (Jvm.Cond.code ({ cls := "java/lang/StringUTF16", name := "charAt", desc := "([BI)C" } : Jvm.MethodName) jdk_52_method_83_code (2 : Nat) (Option.some Jvm.ClassFile.FieldType.char)) ∈ tables_1 := List.mem_of_getElem? (i := 118) rfl
theorem w_119 : (Jvm.Cond.methodLink "java/lang/StringUTF16" (67 : Nat) ({ cls := "java/lang/StringUTF16", name := "checkIndex", desc := "(I[B)V" } : Jvm.MethodName)) ∈ tables_1 := List.mem_of_getElem? (i := 119) rfl
theorem w_120 : (Jvm.Cond.static ({ cls := "java/lang/StringUTF16", name := "checkIndex", desc := "(I[B)V" } : Jvm.MethodName)) ∈ tables_1 := List.mem_of_getElem? (i := 120) rfl
theorem w_121 : (Jvm.Cond.code ({ cls := "java/lang/StringUTF16", name := "checkIndex", desc := "(I[B)V" } : Jvm.MethodName) jdk_52_method_91_code (2 : Nat) (Option.none : Option Jvm.ClassFile.FieldType)) ∈ tables_1 := List.mem_of_getElem? (i := 121) rfl
theorem w_122 : (Jvm.Cond.methodLink "java/lang/StringUTF16" (48 : Nat) ({ cls := "java/lang/StringUTF16", name := "length", desc := "([B)I" } : Jvm.MethodName)) ∈ tables_1 := List.mem_of_getElem? (i := 122) rfl
theorem w_123 : (Jvm.Cond.static ({ cls := "java/lang/StringUTF16", name := "length", desc := "([B)I" } : Jvm.MethodName)) ∈ tables_1 := List.mem_of_getElem? (i := 123) rfl
theorem w_124 : (Jvm.Cond.code ({ cls := "java/lang/StringUTF16", name := "length", desc := "([B)I" } : Jvm.MethodName) jdk_52_method_6_code (1 : Nat) (Option.some Jvm.ClassFile.FieldType.int)) ∈ tables_1 := List.mem_of_getElem? (i := 124) rfl
theorem w_125 : (Jvm.Cond.methodLink "java/lang/StringUTF16" (414 : Nat) ({ cls := "java/lang/String", name := "checkIndex", desc := "(II)V" } : Jvm.MethodName)) ∈ tables_1 := List.mem_of_getElem? (i := 125) rfl
theorem d_jdk_52m5_0 : decode jdk_52_method_5_code 0 = .ok (.getstatic 44, 3) := by decide +kernel
theorem d_jdk_52m5_3 : decode jdk_52_method_5_code 3 = .ok (.ifCond .ne 25, 3) := by decide +kernel
theorem d_jdk_52m5_28 : decode jdk_52_method_5_code 28 = .ok (.iload_n 1, 1) := by decide +kernel
theorem d_jdk_52m5_29 : decode jdk_52_method_5_code 29 = .ok (.iconst 1, 1) := by decide +kernel
theorem d_jdk_52m5_30 : decode jdk_52_method_5_code 30 = .ok (.ishl, 1) := by decide +kernel
theorem d_jdk_52m5_31 : decode jdk_52_method_5_code 31 = .ok (.istore_n 1, 1) := by decide +kernel
theorem d_jdk_52m5_32 : decode jdk_52_method_5_code 32 = .ok (.aload_n 0, 1) := by decide +kernel
theorem d_jdk_52m5_33 : decode jdk_52_method_5_code 33 = .ok (.iload_n 1, 1) := by decide +kernel
theorem d_jdk_52m5_34 : decode jdk_52_method_5_code 34 = .ok (.iinc 1 1, 3) := by decide +kernel
theorem d_jdk_52m5_37 : decode jdk_52_method_5_code 37 = .ok (.baload, 1) := by decide +kernel
theorem d_jdk_52m5_38 : decode jdk_52_method_5_code 38 = .ok (.sipush 255, 3) := by decide +kernel
theorem d_jdk_52m5_41 : decode jdk_52_method_5_code 41 = .ok (.iand, 1) := by decide +kernel
theorem d_jdk_52m5_42 : decode jdk_52_method_5_code 42 = .ok (.getstatic 59, 3) := by decide +kernel
theorem d_jdk_52m5_45 : decode jdk_52_method_5_code 45 = .ok (.ishl, 1) := by decide +kernel
theorem d_jdk_52m5_46 : decode jdk_52_method_5_code 46 = .ok (.aload_n 0, 1) := by decide +kernel
theorem d_jdk_52m5_47 : decode jdk_52_method_5_code 47 = .ok (.iload_n 1, 1) := by decide +kernel
theorem d_jdk_52m5_48 : decode jdk_52_method_5_code 48 = .ok (.baload, 1) := by decide +kernel
theorem d_jdk_52m5_49 : decode jdk_52_method_5_code 49 = .ok (.sipush 255, 3) := by decide +kernel
theorem d_jdk_52m5_52 : decode jdk_52_method_5_code 52 = .ok (.iand, 1) := by decide +kernel
theorem d_jdk_52m5_53 : decode jdk_52_method_5_code 53 = .ok (.getstatic 63, 3) := by decide +kernel
theorem d_jdk_52m5_56 : decode jdk_52_method_5_code 56 = .ok (.ishl, 1) := by decide +kernel
theorem d_jdk_52m5_57 : decode jdk_52_method_5_code 57 = .ok (.ior, 1) := by decide +kernel
theorem d_jdk_52m5_58 : decode jdk_52_method_5_code 58 = .ok (.i2c, 1) := by decide +kernel
theorem d_jdk_52m5_59 : decode jdk_52_method_5_code 59 = .ok (.ireturn, 1) := by decide +kernel
theorem d_jdk_52m3_0 : decode jdk_52_method_3_code 0 = .ok (.iload_n 0, 1) := by decide +kernel
theorem d_jdk_52m3_1 : decode jdk_52_method_3_code 1 = .ok (.ifCond .ge 11, 3) := by decide +kernel
theorem d_jdk_52m3_12 : decode jdk_52_method_3_code 12 = .ok (.iload_n 0, 1) := by decide +kernel
theorem d_jdk_52m3_13 : decode jdk_52_method_3_code 13 = .ok (.ldc 20, 2) := by decide +kernel
theorem d_jdk_52m3_15 : decode jdk_52_method_3_code 15 = .ok (.if_icmp .lt 40, 3) := by decide +kernel
theorem d_jdk_52m3_55 : decode jdk_52_method_3_code 55 = .ok (.iload_n 0, 1) := by decide +kernel
theorem d_jdk_52m3_56 : decode jdk_52_method_3_code 56 = .ok (.iconst 1, 1) := by decide +kernel
theorem d_jdk_52m3_57 : decode jdk_52_method_3_code 57 = .ok (.ishl, 1) := by decide +kernel
theorem d_jdk_52m3_58 : decode jdk_52_method_3_code 58 = .ok (.ireturn, 1) := by decide +kernel
theorem d_jdk_52m2_0 : decode jdk_52_method_2_code 0 = .ok (.iload_n 0, 1) := by decide +kernel
theorem d_jdk_52m2_1 : decode jdk_52_method_2_code 1 = .ok (.invokestatic 11, 3) := by decide +kernel
theorem d_jdk_52m2_4 : decode jdk_52_method_2_code 4 = .ok (.newarray .byte, 2) := by decide +kernel
theorem d_jdk_52m2_6 : decode jdk_52_method_2_code 6 = .ok (.areturn, 1) := by decide +kernel
theorem d_jdk_52m4_0 : decode jdk_52_method_4_code 0 = .ok (.getstatic 44, 3) := by decide +kernel
theorem d_jdk_52m4_3 : decode jdk_52_method_4_code 3 = .ok (.ifCond .ne 25, 3) := by decide +kernel
theorem d_jdk_52m4_28 : decode jdk_52_method_4_code 28 = .ok (.iload_n 1, 1) := by decide +kernel
theorem d_jdk_52m4_29 : decode jdk_52_method_4_code 29 = .ok (.iconst 1, 1) := by decide +kernel
theorem d_jdk_52m4_30 : decode jdk_52_method_4_code 30 = .ok (.ishl, 1) := by decide +kernel
theorem d_jdk_52m4_31 : decode jdk_52_method_4_code 31 = .ok (.istore_n 1, 1) := by decide +kernel
theorem d_jdk_52m4_32 : decode jdk_52_method_4_code 32 = .ok (.aload_n 0, 1) := by decide +kernel
theorem d_jdk_52m4_33 : decode jdk_52_method_4_code 33 = .ok (.iload_n 1, 1) := by decide +kernel
theorem d_jdk_52m4_34 : decode jdk_52_method_4_code 34 = .ok (.iinc 1 1, 3) := by decide +kernel
theorem d_jdk_52m4_37 : decode jdk_52_method_4_code 37 = .ok (.iload_n 2, 1) := by decide +kernel
theorem d_jdk_52m4_38 : decode jdk_52_method_4_code 38 = .ok (.getstatic 59, 3) := by decide +kernel
theorem d_jdk_52m4_41 : decode jdk_52_method_4_code 41 = .ok (.ishr, 1) := by decide +kernel
theorem d_jdk_52m4_42 : decode jdk_52_method_4_code 42 = .ok (.i2b, 1) := by decide +kernel
theorem d_jdk_52m4_43 : decode jdk_52_method_4_code 43 = .ok (.bastore, 1) := by decide +kernel
theorem d_jdk_52m4_44 : decode jdk_52_method_4_code 44 = .ok (.aload_n 0, 1) := by decide +kernel
theorem d_jdk_52m4_45 : decode jdk_52_method_4_code 45 = .ok (.iload_n 1, 1) := by decide +kernel
theorem d_jdk_52m4_46 : decode jdk_52_method_4_code 46 = .ok (.iload_n 2, 1) := by decide +kernel
theorem d_jdk_52m4_47 : decode jdk_52_method_4_code 47 = .ok (.getstatic 63, 3) := by decide +kernel
theorem d_jdk_52m4_50 : decode jdk_52_method_4_code 50 = .ok (.ishr, 1) := by decide +kernel
theorem d_jdk_52m4_51 : decode jdk_52_method_4_code 51 = .ok (.i2b, 1) := by decide +kernel
theorem d_jdk_52m4_52 : decode jdk_52_method_4_code 52 = .ok (.bastore, 1) := by decide +kernel
theorem d_jdk_52m4_53 : decode jdk_52_method_4_code 53 = .ok (.return_, 1) := by decide +kernel
theorem d_jdk_52m14_0 : decode jdk_52_method_14_code 0 = .ok (.iload_n 2, 1) := by decide +kernel
theorem d_jdk_52m14_1 : decode jdk_52_method_14_code 1 = .ok (.invokestatic 107, 3) := by decide +kernel
theorem d_jdk_52m14_4 : decode jdk_52_method_14_code 4 = .ok (.astore_n 3, 1) := by decide +kernel
theorem d_jdk_52m14_5 : decode jdk_52_method_14_code 5 = .ok (.iconst 0, 1) := by decide +kernel
theorem d_jdk_52m14_6 : decode jdk_52_method_14_code 6 = .ok (.istore 4, 2) := by decide +kernel
theorem d_jdk_52m14_8 : decode jdk_52_method_14_code 8 = .ok (.iload 4, 2) := by decide +kernel
theorem d_jdk_52m14_10 : decode jdk_52_method_14_code 10 = .ok (.iload_n 2, 1) := by decide +kernel
theorem d_jdk_52m14_11 : decode jdk_52_method_14_code 11 = .ok (.if_icmp .ge 21, 3) := by decide +kernel
theorem d_jdk_52m14_14 : decode jdk_52_method_14_code 14 = .ok (.aload_n 3, 1) := by decide +kernel
theorem d_jdk_52m14_15 : decode jdk_52_method_14_code 15 = .ok (.iload 4, 2) := by decide +kernel
theorem d_jdk_52m14_17 : decode jdk_52_method_14_code 17 = .ok (.aload_n 0, 1) := by decide +kernel
theorem d_jdk_52m14_18 : decode jdk_52_method_14_code 18 = .ok (.iload_n 1, 1) := by decide +kernel
theorem d_jdk_52m14_19 : decode jdk_52_method_14_code 19 = .ok (.caload, 1) := by decide +kernel
theorem d_jdk_52m14_20 : decode jdk_52_method_14_code 20 = .ok (.invokestatic 111, 3) := by decide +kernel
theorem d_jdk_52m14_23 : decode jdk_52_method_14_code 23 = .ok (.iinc 1 1, 3) := by decide +kernel
theorem d_jdk_52m14_26 : decode jdk_52_method_14_code 26 = .ok (.iinc 4 1, 3) := by decide +kernel
theorem d_jdk_52m14_29 : decode jdk_52_method_14_code 29 = .ok (.goto (-21), 3) := by decide +kernel
theorem d_jdk_52m14_32 : decode jdk_52_method_14_code 32 = .ok (.aload_n 3, 1) := by decide +kernel
theorem d_jdk_52m14_33 : decode jdk_52_method_14_code 33 = .ok (.areturn, 1) := by decide +kernel
theorem d_jdk_52m21_0 : decode jdk_52_method_21_code 0 = .ok (.iconst 0, 1) := by decide +kernel
theorem d_jdk_52m21_1 : decode jdk_52_method_21_code 1 = .ok (.istore 5, 2) := by decide +kernel
theorem d_jdk_52m21_3 : decode jdk_52_method_21_code 3 = .ok (.iload 5, 2) := by decide +kernel
theorem d_jdk_52m21_5 : decode jdk_52_method_21_code 5 = .ok (.iload 4, 2) := by decide +kernel
theorem d_jdk_52m21_7 : decode jdk_52_method_21_code 7 = .ok (.if_icmp .ge 37, 3) := by decide +kernel
theorem d_jdk_52m21_10 : decode jdk_52_method_21_code 10 = .ok (.aload_n 0, 1) := by decide +kernel
theorem d_jdk_52m21_11 : decode jdk_52_method_21_code 11 = .ok (.iload_n 1, 1) := by decide +kernel
theorem d_jdk_52m21_12 : decode jdk_52_method_21_code 12 = .ok (.caload, 1) := by decide +kernel
theorem d_jdk_52m21_13 : decode jdk_52_method_21_code 13 = .ok (.istore 6, 2) := by decide +kernel
theorem d_jdk_52m21_15 : decode jdk_52_method_21_code 15 = .ok (.iload 6, 2) := by decide +kernel
theorem d_jdk_52m21_17 : decode jdk_52_method_21_code 17 = .ok (.sipush 255, 3) := by decide +kernel
theorem d_jdk_52m21_20 : decode jdk_52_method_21_code 20 = .ok (.if_icmp .le 6, 3) := by decide +kernel
theorem d_jdk_52m21_23 : decode jdk_52_method_21_code 23 = .ok (.iload 5, 2) := by decide +kernel
theorem d_jdk_52m21_25 : decode jdk_52_method_21_code 25 = .ok (.ireturn, 1) := by decide +kernel
theorem d_jdk_52m21_26 : decode jdk_52_method_21_code 26 = .ok (.aload_n 2, 1) := by decide +kernel
theorem d_jdk_52m21_27 : decode jdk_52_method_21_code 27 = .ok (.iload_n 3, 1) := by decide +kernel
theorem d_jdk_52m21_28 : decode jdk_52_method_21_code 28 = .ok (.iload 6, 2) := by decide +kernel
theorem d_jdk_52m21_30 : decode jdk_52_method_21_code 30 = .ok (.i2b, 1) := by decide +kernel
theorem d_jdk_52m21_31 : decode jdk_52_method_21_code 31 = .ok (.bastore, 1) := by decide +kernel
theorem d_jdk_52m21_32 : decode jdk_52_method_21_code 32 = .ok (.iinc 1 1, 3) := by decide +kernel
theorem d_jdk_52m21_35 : decode jdk_52_method_21_code 35 = .ok (.iinc 3 1, 3) := by decide +kernel
theorem d_jdk_52m21_38 : decode jdk_52_method_21_code 38 = .ok (.iinc 5 1, 3) := by decide +kernel
theorem d_jdk_52m21_41 : decode jdk_52_method_21_code 41 = .ok (.goto (-38), 3) := by decide +kernel
theorem d_jdk_52m21_44 : decode jdk_52_method_21_code 44 = .ok (.iload 4, 2) := by decide +kernel
theorem d_jdk_52m21_46 : decode jdk_52_method_21_code 46 = .ok (.ireturn, 1) := by decide +kernel
theorem d_jdk_52m16_0 : decode jdk_52_method_16_code 0 = .ok (.iload_n 2, 1) := by decide +kernel
theorem d_jdk_52m16_1 : decode jdk_52_method_16_code 1 = .ok (.newarray .byte, 2) := by decide +kernel
theorem d_jdk_52m16_3 : decode jdk_52_method_16_code 3 = .ok (.astore_n 3, 1) := by decide +kernel
theorem d_jdk_52m16_4 : decode jdk_52_method_16_code 4 = .ok (.aload_n 0, 1) := by decide +kernel
theorem d_jdk_52m16_5 : decode jdk_52_method_16_code 5 = .ok (.iload_n 1, 1) := by decide +kernel
theorem d_jdk_52m16_6 : decode jdk_52_method_16_code 6 = .ok (.aload_n 3, 1) := by decide +kernel
theorem d_jdk_52m16_7 : decode jdk_52_method_16_code 7 = .ok (.iconst 0, 1) := by decide +kernel
theorem d_jdk_52m16_8 : decode jdk_52_method_16_code 8 = .ok (.iload_n 2, 1) := by decide +kernel
theorem d_jdk_52m16_9 : decode jdk_52_method_16_code 9 = .ok (.invokestatic 115, 3) := by decide +kernel
theorem d_jdk_52m16_12 : decode jdk_52_method_16_code 12 = .ok (.istore 4, 2) := by decide +kernel
theorem d_jdk_52m16_14 : decode jdk_52_method_16_code 14 = .ok (.iload 4, 2) := by decide +kernel
theorem d_jdk_52m16_16 : decode jdk_52_method_16_code 16 = .ok (.iload_n 2, 1) := by decide +kernel
theorem d_jdk_52m16_17 : decode jdk_52_method_16_code 17 = .ok (.if_icmp .eq 40, 3) := by decide +kernel
theorem d_jdk_52m16_20 : decode jdk_52_method_16_code 20 = .ok (.aload_n 0, 1) := by decide +kernel
theorem d_jdk_52m16_21 : decode jdk_52_method_16_code 21 = .ok (.iload_n 1, 1) := by decide +kernel
theorem d_jdk_52m16_22 : decode jdk_52_method_16_code 22 = .ok (.iload_n 2, 1) := by decide +kernel
theorem d_jdk_52m16_23 : decode jdk_52_method_16_code 23 = .ok (.invokestatic 119, 3) := by decide +kernel
theorem d_jdk_52m16_26 : decode jdk_52_method_16_code 26 = .ok (.astore 5, 2) := by decide +kernel
theorem d_jdk_52m16_28 : decode jdk_52_method_16_code 28 = .ok (.aload 5, 2) := by decide +kernel
theorem d_jdk_52m16_30 : decode jdk_52_method_16_code 30 = .ok (.iload 4, 2) := by decide +kernel
theorem d_jdk_52m16_32 : decode jdk_52_method_16_code 32 = .ok (.invokestatic 71, 3) := by decide +kernel
theorem d_jdk_52m16_35 : decode jdk_52_method_16_code 35 = .ok (.sipush 255, 3) := by decide +kernel
theorem d_jdk_52m16_38 : decode jdk_52_method_16_code 38 = .ok (.if_icmp .gt 16, 3) := by decide +kernel
theorem d_jdk_52m16_54 : decode jdk_52_method_16_code 54 = .ok (.aload 5, 2) := by decide +kernel
theorem d_jdk_52m16_56 : decode jdk_52_method_16_code 56 = .ok (.areturn, 1) := by decide +kernel
theorem d_jdk_52m16_57 : decode jdk_52_method_16_code 57 = .ok (.aload_n 3, 1) := by decide +kernel
theorem d_jdk_52m16_58 : decode jdk_52_method_16_code 58 = .ok (.areturn, 1) := by decide +kernel
theorem d_jdk_52m15_0 : decode jdk_52_method_15_code 0 = .ok (.iload_n 1, 1) := by decide +kernel
theorem d_jdk_52m15_1 : decode jdk_52_method_15_code 1 = .ok (.aload_n 0, 1) := by decide +kernel
theorem d_jdk_52m15_2 : decode jdk_52_method_15_code 2 = .ok (.arraylength, 1) := by decide +kernel
theorem d_jdk_52m15_3 : decode jdk_52_method_15_code 3 = .ok (.isub, 1) := by decide +kernel
theorem d_jdk_52m15_4 : decode jdk_52_method_15_code 4 = .ok (.bipush 31, 2) := by decide +kernel
theorem d_jdk_52m15_6 : decode jdk_52_method_15_code 6 = .ok (.iushr, 1) := by decide +kernel
theorem d_jdk_52m15_7 : decode jdk_52_method_15_code 7 = .ok (.i2b, 1) := by decide +kernel
theorem d_jdk_52m15_8 : decode jdk_52_method_15_code 8 = .ok (.ireturn, 1) := by decide +kernel
theorem d_jdk_42m149_0 : decode jdk_42_method_149_code 0 = .ok (.aload_n 0, 1) := by decide +kernel
theorem d_jdk_42m149_1 : decode jdk_42_method_149_code 1 = .ok (.invokespecial 1, 3) := by decide +kernel
theorem d_jdk_42m149_4 : decode jdk_42_method_149_code 4 = .ok (.iload_n 3, 1) := by decide +kernel
theorem d_jdk_42m149_5 : decode jdk_42_method_149_code 5 = .ok (.ifCond .ne 22, 3) := by decide +kernel
theorem d_jdk_42m149_27 : decode jdk_42_method_149_code 27 = .ok (.getstatic 38, 3) := by decide +kernel
theorem d_jdk_42m149_30 : decode jdk_42_method_149_code 30 = .ok (.ifCond .eq 28, 3) := by decide +kernel
theorem d_jdk_42m149_33 : decode jdk_42_method_149_code 33 = .ok (.aload_n 1, 1) := by decide +kernel
theorem d_jdk_42m149_34 : decode jdk_42_method_149_code 34 = .ok (.iload_n 2, 1) := by decide +kernel
theorem d_jdk_42m149_35 : decode jdk_42_method_149_code 35 = .ok (.iload_n 3, 1) := by decide +kernel
theorem d_jdk_42m149_36 : decode jdk_42_method_149_code 36 = .ok (.invokestatic 177, 3) := by decide +kernel
theorem d_jdk_42m149_39 : decode jdk_42_method_149_code 39 = .ok (.astore 5, 2) := by decide +kernel
theorem d_jdk_42m149_41 : decode jdk_42_method_149_code 41 = .ok (.aload_n 0, 1) := by decide +kernel
theorem d_jdk_42m149_42 : decode jdk_42_method_149_code 42 = .ok (.aload 5, 2) := by decide +kernel
theorem d_jdk_42m149_44 : decode jdk_42_method_149_code 44 = .ok (.iload_n 3, 1) := by decide +kernel
theorem d_jdk_42m149_45 : decode jdk_42_method_149_code 45 = .ok (.invokestatic 47, 3) := by decide +kernel
theorem d_jdk_42m149_48 : decode jdk_42_method_149_code 48 = .ok (.putfield 15, 3) := by decide +kernel
theorem d_jdk_42m149_51 : decode jdk_42_method_149_code 51 = .ok (.aload_n 0, 1) := by decide +kernel
theorem d_jdk_42m149_52 : decode jdk_42_method_149_code 52 = .ok (.aload 5, 2) := by decide +kernel
theorem d_jdk_42m149_54 : decode jdk_42_method_149_code 54 = .ok (.putfield 9, 3) := by decide +kernel
theorem d_jdk_42m149_57 : decode jdk_42_method_149_code 57 = .ok (.return_, 1) := by decide +kernel
theorem d_jdk_42m3_0 : decode jdk_42_method_3_code 0 = .ok (.aload_n 0, 1) := by decide +kernel
theorem d_jdk_42m3_1 : decode jdk_42_method_3_code 1 = .ok (.aload_n 1, 1) := by decide +kernel
theorem d_jdk_42m3_2 : decode jdk_42_method_3_code 2 = .ok (.iconst 0, 1) := by decide +kernel
theorem d_jdk_42m3_3 : decode jdk_42_method_3_code 3 = .ok (.aload_n 1, 1) := by decide +kernel
theorem d_jdk_42m3_4 : decode jdk_42_method_3_code 4 = .ok (.arraylength, 1) := by decide +kernel
theorem d_jdk_42m3_5 : decode jdk_42_method_3_code 5 = .ok (.aconst_null, 1) := by decide +kernel
theorem d_jdk_42m3_6 : decode jdk_42_method_3_code 6 = .ok (.invokespecial 27, 3) := by decide +kernel
theorem d_jdk_42m3_9 : decode jdk_42_method_3_code 9 = .ok (.return_, 1) := by decide +kernel
theorem d_jdk_42m149_8 : decode jdk_42_method_149_code 8 = .ok (.aload_n 0, 1) := by decide +kernel
theorem d_jdk_42m149_9 : decode jdk_42_method_149_code 9 = .ok (.ldc 7, 2) := by decide +kernel
theorem d_jdk_42m149_11 : decode jdk_42_method_149_code 11 = .ok (.getfield 9, 3) := by decide +kernel
theorem d_jdk_42m149_14 : decode jdk_42_method_149_code 14 = .ok (.putfield 9, 3) := by decide +kernel
theorem d_jdk_42m149_17 : decode jdk_42_method_149_code 17 = .ok (.aload_n 0, 1) := by decide +kernel
theorem d_jdk_42m149_18 : decode jdk_42_method_149_code 18 = .ok (.ldc 7, 2) := by decide +kernel
theorem d_jdk_42m149_20 : decode jdk_42_method_149_code 20 = .ok (.getfield 15, 3) := by decide +kernel
theorem d_jdk_42m149_23 : decode jdk_42_method_149_code 23 = .ok (.putfield 15, 3) := by decide +kernel
theorem d_jdk_42m149_26 : decode jdk_42_method_149_code 26 = .ok (.return_, 1) := by decide +kernel
theorem d_jdk_42m154_0 : decode jdk_42_method_154_code 0 = .ok (.getstatic 38, 3) := by decide +kernel
theorem d_jdk_42m154_3 : decode jdk_42_method_154_code 3 = .ok (.ifCond .eq 14, 3) := by decide +kernel
theorem d_jdk_42m154_6 : decode jdk_42_method_154_code 6 = .ok (.aload_n 0, 1) := by decide +kernel
theorem d_jdk_42m154_7 : decode jdk_42_method_154_code 7 = .ok (.getfield 15, 3) := by decide +kernel
theorem d_jdk_42m154_10 : decode jdk_42_method_154_code 10 = .ok (.ifCond .ne 7, 3) := by decide +kernel
theorem d_jdk_42m154_13 : decode jdk_42_method_154_code 13 = .ok (.iconst 1, 1) := by decide +kernel
theorem d_jdk_42m154_14 : decode jdk_42_method_154_code 14 = .ok (.goto 4, 3) := by decide +kernel
theorem d_jdk_42m154_18 : decode jdk_42_method_154_code 18 = .ok (.ireturn, 1) := by decide +kernel
theorem d_jdk_42m154_17 : decode jdk_42_method_154_code 17 = .ok (.iconst 0, 1) := by decide +kernel
theorem d_jdk_41m11_0 : decode jdk_41_method_11_code 0 = .ok (.iload_n 0, 1) := by decide +kernel
theorem d_jdk_41m11_1 : decode jdk_41_method_11_code 1 = .ok (.ifCond .lt 8, 3) := by decide +kernel
theorem d_jdk_41m11_4 : decode jdk_41_method_11_code 4 = .ok (.iload_n 0, 1) := by decide +kernel
theorem d_jdk_41m11_5 : decode jdk_41_method_11_code 5 = .ok (.iload_n 1, 1) := by decide +kernel
theorem d_jdk_41m11_6 : decode jdk_41_method_11_code 6 = .ok (.if_icmp .lt 10, 3) := by decide +kernel
theorem d_jdk_41m11_16 : decode jdk_41_method_11_code 16 = .ok (.iload_n 0, 1) := by decide +kernel
theorem d_jdk_41m11_17 : decode jdk_41_method_11_code 17 = .ok (.ireturn, 1) := by decide +kernel
theorem d_jdk_42m155_0 : decode jdk_42_method_155_code 0 = .ok (.iload_n 0, 1) := by decide +kernel
theorem d_jdk_42m155_1 : decode jdk_42_method_155_code 1 = .ok (.iload_n 1, 1) := by decide +kernel
theorem d_jdk_42m155_2 : decode jdk_42_method_155_code 2 = .ok (.getstatic 1053, 3) := by decide +kernel
theorem d_jdk_42m155_5 : decode jdk_42_method_155_code 5 = .ok (.invokestatic 1059, 3) := by decide +kernel
theorem d_jdk_42m155_8 : decode jdk_42_method_155_code 8 = .ok (.pop, 1) := by decide +kernel
theorem d_jdk_42m155_9 : decode jdk_42_method_155_code 9 = .ok (.return_, 1) := by decide +kernel
theorem d_jdk_52m6_0 : decode jdk_52_method_6_code 0 = .ok (.aload_n 0, 1) := by decide +kernel
theorem d_jdk_52m6_1 : decode jdk_52_method_6_code 1 = .ok (.arraylength, 1) := by decide +kernel
theorem d_jdk_52m6_2 : decode jdk_52_method_6_code 2 = .ok (.iconst 1, 1) := by decide +kernel
theorem d_jdk_52m6_3 : decode jdk_52_method_6_code 3 = .ok (.ishr, 1) := by decide +kernel
theorem d_jdk_52m6_4 : decode jdk_52_method_6_code 4 = .ok (.ireturn, 1) := by decide +kernel
theorem d_jdk_43m2_0 : decode jdk_43_method_2_code 0 = .ok (.iload_n 1, 1) := by decide +kernel
theorem d_jdk_43m2_1 : decode jdk_43_method_2_code 1 = .ok (.aload_n 0, 1) := by decide +kernel
theorem d_jdk_43m2_2 : decode jdk_43_method_2_code 2 = .ok (.arraylength, 1) := by decide +kernel
theorem d_jdk_43m2_3 : decode jdk_43_method_2_code 3 = .ok (.invokestatic 9, 3) := by decide +kernel
theorem d_jdk_43m2_6 : decode jdk_43_method_2_code 6 = .ok (.aload_n 0, 1) := by decide +kernel
theorem d_jdk_43m2_7 : decode jdk_43_method_2_code 7 = .ok (.iload_n 1, 1) := by decide +kernel
theorem d_jdk_43m2_8 : decode jdk_43_method_2_code 8 = .ok (.baload, 1) := by decide +kernel
theorem d_jdk_43m2_9 : decode jdk_43_method_2_code 9 = .ok (.sipush 255, 3) := by decide +kernel
theorem d_jdk_43m2_12 : decode jdk_43_method_2_code 12 = .ok (.iand, 1) := by decide +kernel
theorem d_jdk_43m2_13 : decode jdk_43_method_2_code 13 = .ok (.i2c, 1) := by decide +kernel
theorem d_jdk_43m2_14 : decode jdk_43_method_2_code 14 = .ok (.ireturn, 1) := by decide +kernel
theorem d_jdk_52m91_0 : decode jdk_52_method_91_code 0 = .ok (.iload_n 0, 1) := by decide +kernel
theorem d_jdk_52m91_1 : decode jdk_52_method_91_code 1 = .ok (.aload_n 1, 1) := by decide +kernel
theorem d_jdk_52m91_2 : decode jdk_52_method_91_code 2 = .ok (.invokestatic 48, 3) := by decide +kernel
theorem d_jdk_52m91_5 : decode jdk_52_method_91_code 5 = .ok (.invokestatic 414, 3) := by decide +kernel
theorem d_jdk_52m91_8 : decode jdk_52_method_91_code 8 = .ok (.return_, 1) := by decide +kernel
theorem d_jdk_52m83_0 : decode jdk_52_method_83_code 0 = .ok (.iload_n 1, 1) := by decide +kernel
theorem d_jdk_52m83_1 : decode jdk_52_method_83_code 1 = .ok (.aload_n 0, 1) := by decide +kernel
theorem d_jdk_52m83_2 : decode jdk_52_method_83_code 2 = .ok (.invokestatic 67, 3) := by decide +kernel
theorem d_jdk_52m83_5 : decode jdk_52_method_83_code 5 = .ok (.aload_n 0, 1) := by decide +kernel
theorem d_jdk_52m83_6 : decode jdk_52_method_83_code 6 = .ok (.iload_n 1, 1) := by decide +kernel
theorem d_jdk_52m83_7 : decode jdk_52_method_83_code 7 = .ok (.invokestatic 71, 3) := by decide +kernel
theorem d_jdk_52m83_10 : decode jdk_52_method_83_code 10 = .ok (.ireturn, 1) := by decide +kernel
theorem d_jdk_42m56_0 : decode jdk_42_method_56_code 0 = .ok (.aload_n 0, 1) := by decide +kernel
theorem d_jdk_42m56_1 : decode jdk_42_method_56_code 1 = .ok (.invokevirtual 492, 3) := by decide +kernel
theorem d_jdk_42m56_4 : decode jdk_42_method_56_code 4 = .ok (.ifCond .eq 12, 3) := by decide +kernel
theorem d_jdk_42m56_7 : decode jdk_42_method_56_code 7 = .ok (.aload_n 0, 1) := by decide +kernel
theorem d_jdk_42m56_8 : decode jdk_42_method_56_code 8 = .ok (.getfield 9, 3) := by decide +kernel
theorem d_jdk_42m56_11 : decode jdk_42_method_56_code 11 = .ok (.iload_n 1, 1) := by decide +kernel
theorem d_jdk_42m56_12 : decode jdk_42_method_56_code 12 = .ok (.invokestatic 495, 3) := by decide +kernel
theorem d_jdk_42m56_15 : decode jdk_42_method_56_code 15 = .ok (.ireturn, 1) := by decide +kernel
theorem d_jdk_42m56_16 : decode jdk_42_method_56_code 16 = .ok (.aload_n 0, 1) := by decide +kernel
theorem d_jdk_42m56_17 : decode jdk_42_method_56_code 17 = .ok (.getfield 9, 3) := by decide +kernel
theorem d_jdk_42m56_20 : decode jdk_42_method_56_code 20 = .ok (.iload_n 1, 1) := by decide +kernel
theorem d_jdk_42m56_21 : decode jdk_42_method_56_code 21 = .ok (.invokestatic 498, 3) := by decide +kernel
theorem d_jdk_42m56_24 : decode jdk_42_method_56_code 24 = .ok (.ireturn, 1) := by decide +kernel
theorem d_method_3_0 : decode method_3_code 0 = .ok (.iload_n 0, 1) := by decide +kernel
theorem d_method_3_1 : decode method_3_code 1 = .ok (.iconst 3, 1) := by decide +kernel
theorem d_method_3_2 : decode method_3_code 2 = .ok (.iand, 1) := by decide +kernel
theorem d_method_3_3 : decode method_3_code 3 = .ok (.istore_n 1, 1) := by decide +kernel
theorem d_method_3_4 : decode method_3_code 4 = .ok (.iload_n 0, 1) := by decide +kernel
theorem d_method_3_5 : decode method_3_code 5 = .ok (.iconst 2, 1) := by decide +kernel
theorem d_method_3_6 : decode method_3_code 6 = .ok (.iushr, 1) := by decide +kernel
theorem d_method_3_7 : decode method_3_code 7 = .ok (.istore_n 2, 1) := by decide +kernel
theorem d_method_3_8 : decode method_3_code 8 = .ok (.iload_n 1, 1) := by decide +kernel
theorem d_method_3_9 : decode method_3_code 9 = .ok (.ifCond .ne 12, 3) := by decide +kernel
theorem d_method_3_12 : decode method_3_code 12 = .ok (.bipush 48, 2) := by decide +kernel
theorem d_method_3_14 : decode method_3_code 14 = .ok (.iload_n 2, 1) := by decide +kernel
theorem d_method_3_15 : decode method_3_code 15 = .ok (.bipush 10, 2) := by decide +kernel
theorem d_method_3_17 : decode method_3_code 17 = .ok (.irem, 1) := by decide +kernel
theorem d_method_3_18 : decode method_3_code 18 = .ok (.iadd, 1) := by decide +kernel
theorem d_method_3_19 : decode method_3_code 19 = .ok (.i2c, 1) := by decide +kernel
theorem d_method_3_20 : decode method_3_code 20 = .ok (.ireturn, 1) := by decide +kernel
theorem d_method_3_21 : decode method_3_code 21 = .ok (.iload_n 1, 1) := by decide +kernel
theorem d_method_3_22 : decode method_3_code 22 = .ok (.iconst 1, 1) := by decide +kernel
theorem d_method_3_23 : decode method_3_code 23 = .ok (.if_icmp .ne 6, 3) := by decide +kernel
theorem d_method_3_26 : decode method_3_code 26 = .ok (.bipush 46, 2) := by decide +kernel
theorem d_method_3_28 : decode method_3_code 28 = .ok (.ireturn, 1) := by decide +kernel
theorem d_method_3_29 : decode method_3_code 29 = .ok (.iload_n 1, 1) := by decide +kernel
theorem d_method_3_30 : decode method_3_code 30 = .ok (.iconst 2, 1) := by decide +kernel
theorem d_method_3_31 : decode method_3_code 31 = .ok (.if_icmp .ne 17, 3) := by decide +kernel
theorem d_method_3_34 : decode method_3_code 34 = .ok (.iload_n 2, 1) := by decide +kernel
theorem d_method_3_35 : decode method_3_code 35 = .ok (.iconst 1, 1) := by decide +kernel
theorem d_method_3_36 : decode method_3_code 36 = .ok (.iand, 1) := by decide +kernel
theorem d_method_3_37 : decode method_3_code 37 = .ok (.ifCond .ne 8, 3) := by decide +kernel
theorem d_method_3_40 : decode method_3_code 40 = .ok (.bipush 43, 2) := by decide +kernel
theorem d_method_3_42 : decode method_3_code 42 = .ok (.goto 5, 3) := by decide +kernel
theorem d_method_3_47 : decode method_3_code 47 = .ok (.ireturn, 1) := by decide +kernel
theorem d_method_3_45 : decode method_3_code 45 = .ok (.bipush 45, 2) := by decide +kernel
theorem d_method_3_48 : decode method_3_code 48 = .ok (.iload_n 2, 1) := by decide +kernel
theorem d_method_3_49 : decode method_3_code 49 = .ok (.ldc 35, 2) := by decide +kernel
theorem d_method_3_51 : decode method_3_code 51 = .ok (.iand, 1) := by decide +kernel
theorem d_method_3_52 : decode method_3_code 52 = .ok (.i2c, 1) := by decide +kernel
theorem d_method_3_53 : decode method_3_code 53 = .ok (.ireturn, 1) := by decide +kernel
theorem d_method_4_0 : decode method_4_code 0 = .ok (.iload_n 0, 1) := by decide +kernel
theorem d_method_4_1 : decode method_4_code 1 = .ok (.iload_n 1, 1) := by decide +kernel
theorem d_method_4_2 : decode method_4_code 2 = .ok (.if_icmp .lt 12, 3) := by decide +kernel
theorem d_method_4_14 : decode method_4_code 14 = .ok (.iconst 0, 1) := by decide +kernel
theorem d_method_4_15 : decode method_4_code 15 = .ok (.ireturn, 1) := by decide +kernel
theorem d_method_4_5 : decode method_4_code 5 = .ok (.iload_n 0, 1) := by decide +kernel
theorem d_method_4_6 : decode method_4_code 6 = .ok (.iload_n 2, 1) := by decide +kernel
theorem d_method_4_7 : decode method_4_code 7 = .ok (.if_icmp .ge 7, 3) := by decide +kernel
theorem d_method_4_10 : decode method_4_code 10 = .ok (.iconst 1, 1) := by decide +kernel
theorem d_method_4_11 : decode method_4_code 11 = .ok (.goto 4, 3) := by decide +kernel
theorem d_method_5_0 : decode method_5_code 0 = .ok (.iload_n 0, 1) := by decide +kernel
theorem d_method_5_1 : decode method_5_code 1 = .ok (.bipush 48, 2) := by decide +kernel
theorem d_method_5_3 : decode method_5_code 3 = .ok (.if_icmp .lt 13, 3) := by decide +kernel
theorem d_method_5_16 : decode method_5_code 16 = .ok (.iconst 0, 1) := by decide +kernel
theorem d_method_5_17 : decode method_5_code 17 = .ok (.ireturn, 1) := by decide +kernel
theorem d_method_5_6 : decode method_5_code 6 = .ok (.iload_n 0, 1) := by decide +kernel
theorem d_method_5_7 : decode method_5_code 7 = .ok (.bipush 57, 2) := by decide +kernel
theorem d_method_5_9 : decode method_5_code 9 = .ok (.if_icmp .gt 7, 3) := by decide +kernel
theorem d_method_5_12 : decode method_5_code 12 = .ok (.iconst 1, 1) := by decide +kernel
theorem d_method_5_13 : decode method_5_code 13 = .ok (.goto 4, 3) := by decide +kernel
theorem d_method_6_0 : decode method_6_code 0 = .ok (.iload_n 1, 1) := by decide +kernel
theorem d_method_6_1 : decode method_6_code 1 = .ok (.iload_n 2, 1) := by decide +kernel
theorem d_method_6_2 : decode method_6_code 2 = .ok (.iload_n 3, 1) := by decide +kernel
theorem d_method_6_3 : decode method_6_code 3 = .ok (.invokestatic 36, 3) := by decide +kernel
theorem d_method_6_6 : decode method_6_code 6 = .ok (.ifCond .eq 14, 3) := by decide +kernel
theorem d_method_6_20 : decode method_6_code 20 = .ok (.iconst 0, 1) := by decide +kernel
theorem d_method_6_21 : decode method_6_code 21 = .ok (.ireturn, 1) := by decide +kernel
theorem d_method_6_9 : decode method_6_code 9 = .ok (.iload_n 0, 1) := by decide +kernel
theorem d_method_6_10 : decode method_6_code 10 = .ok (.invokestatic 40, 3) := by decide +kernel
theorem d_method_6_13 : decode method_6_code 13 = .ok (.ifCond .eq 7, 3) := by decide +kernel
theorem d_method_6_16 : decode method_6_code 16 = .ok (.iconst 1, 1) := by decide +kernel
theorem d_method_6_17 : decode method_6_code 17 = .ok (.goto 4, 3) := by decide +kernel
theorem d_method_7_0 : decode method_7_code 0 = .ok (.iload_n 1, 1) := by decide +kernel
theorem d_method_7_1 : decode method_7_code 1 = .ok (.iload_n 2, 1) := by decide +kernel
theorem d_method_7_2 : decode method_7_code 2 = .ok (.iload_n 3, 1) := by decide +kernel
theorem d_method_7_3 : decode method_7_code 3 = .ok (.invokestatic 36, 3) := by decide +kernel
theorem d_method_7_6 : decode method_7_code 6 = .ok (.ifCond .eq 13, 3) := by decide +kernel
theorem d_method_7_19 : decode method_7_code 19 = .ok (.iconst 0, 1) := by decide +kernel
theorem d_method_7_20 : decode method_7_code 20 = .ok (.ireturn, 1) := by decide +kernel
theorem d_method_7_9 : decode method_7_code 9 = .ok (.iload_n 0, 1) := by decide +kernel
theorem d_method_7_10 : decode method_7_code 10 = .ok (.bipush 46, 2) := by decide +kernel
theorem d_method_7_12 : decode method_7_code 12 = .ok (.if_icmp .ne 7, 3) := by decide +kernel
theorem d_method_7_15 : decode method_7_code 15 = .ok (.iconst 1, 1) := by decide +kernel
theorem d_method_7_16 : decode method_7_code 16 = .ok (.goto 4, 3) := by decide +kernel
theorem d_method_8_0 : decode method_8_code 0 = .ok (.iload_n 1, 1) := by decide +kernel
theorem d_method_8_1 : decode method_8_code 1 = .ok (.iload_n 2, 1) := by decide +kernel
theorem d_method_8_2 : decode method_8_code 2 = .ok (.iload_n 3, 1) := by decide +kernel
theorem d_method_8_3 : decode method_8_code 3 = .ok (.invokestatic 36, 3) := by decide +kernel
theorem d_method_8_6 : decode method_8_code 6 = .ok (.ifCond .eq 20, 3) := by decide +kernel
theorem d_method_8_26 : decode method_8_code 26 = .ok (.iconst 0, 1) := by decide +kernel
theorem d_method_8_27 : decode method_8_code 27 = .ok (.ireturn, 1) := by decide +kernel
theorem d_method_8_9 : decode method_8_code 9 = .ok (.iload_n 0, 1) := by decide +kernel
theorem d_method_8_10 : decode method_8_code 10 = .ok (.invokestatic 40, 3) := by decide +kernel
theorem d_method_8_13 : decode method_8_code 13 = .ok (.ifCond .ne 13, 3) := by decide +kernel
theorem d_method_8_16 : decode method_8_code 16 = .ok (.iload_n 0, 1) := by decide +kernel
theorem d_method_8_17 : decode method_8_code 17 = .ok (.bipush 46, 2) := by decide +kernel
theorem d_method_8_19 : decode method_8_code 19 = .ok (.if_icmp .eq 7, 3) := by decide +kernel
theorem d_method_8_22 : decode method_8_code 22 = .ok (.iconst 1, 1) := by decide +kernel
theorem d_method_8_23 : decode method_8_code 23 = .ok (.goto 4, 3) := by decide +kernel
theorem d_prog_29m2_0 : decode prog_29_method_2_code 0 = .ok (.aload_n 0, 1) := by decide +kernel
theorem d_prog_29m2_1 : decode prog_29_method_2_code 1 = .ok (.invokeinterface 7 1, 5) := by decide +kernel
theorem d_prog_29m2_6 : decode prog_29_method_2_code 6 = .ok (.istore_n 1, 1) := by decide +kernel
theorem d_prog_29m2_7 : decode prog_29_method_2_code 7 = .ok (.iload_n 1, 1) := by decide +kernel
theorem d_prog_29m2_8 : decode prog_29_method_2_code 8 = .ok (.ifCond .le 31, 3) := by decide +kernel
theorem d_prog_29m2_39 : decode prog_29_method_2_code 39 = .ok (.iconst 0, 1) := by decide +kernel
theorem d_prog_29m2_40 : decode prog_29_method_2_code 40 = .ok (.istore_n 2, 1) := by decide +kernel
theorem d_prog_29m2_41 : decode prog_29_method_2_code 41 = .ok (.iconst 0, 1) := by decide +kernel
theorem d_prog_29m2_42 : decode prog_29_method_2_code 42 = .ok (.istore_n 3, 1) := by decide +kernel
theorem d_prog_29m2_43 : decode prog_29_method_2_code 43 = .ok (.iconst 0, 1) := by decide +kernel
theorem d_prog_29m2_44 : decode prog_29_method_2_code 44 = .ok (.istore 4, 2) := by decide +kernel
theorem d_prog_29m2_46 : decode prog_29_method_2_code 46 = .ok (.iload_n 2, 1) := by decide +kernel
theorem d_prog_29m2_47 : decode prog_29_method_2_code 47 = .ok (.iload_n 1, 1) := by decide +kernel
theorem d_prog_29m2_48 : decode prog_29_method_2_code 48 = .ok (.if_icmp .ge 57, 3) := by decide +kernel
theorem d_prog_29m2_105 : decode prog_29_method_2_code 105 = .ok (.iload_n 3, 1) := by decide +kernel
theorem d_prog_29m2_106 : decode prog_29_method_2_code 106 = .ok (.ireturn, 1) := by decide +kernel
theorem d_prog_29m2_11 : decode prog_29_method_2_code 11 = .ok (.aload_n 0, 1) := by decide +kernel
theorem d_prog_29m2_12 : decode prog_29_method_2_code 12 = .ok (.iconst 0, 1) := by decide +kernel
theorem d_prog_29m2_13 : decode prog_29_method_2_code 13 = .ok (.invokeinterface 13 2, 5) := by decide +kernel
theorem d_prog_29m2_18 : decode prog_29_method_2_code 18 = .ok (.bipush 43, 2) := by decide +kernel
theorem d_prog_29m2_20 : decode prog_29_method_2_code 20 = .ok (.if_icmp .eq 15, 3) := by decide +kernel
theorem d_prog_29m2_35 : decode prog_29_method_2_code 35 = .ok (.iconst 1, 1) := by decide +kernel
theorem d_prog_29m2_36 : decode prog_29_method_2_code 36 = .ok (.goto 4, 3) := by decide +kernel
theorem d_prog_29m2_23 : decode prog_29_method_2_code 23 = .ok (.aload_n 0, 1) := by decide +kernel
theorem d_prog_29m2_24 : decode prog_29_method_2_code 24 = .ok (.iconst 0, 1) := by decide +kernel
theorem d_prog_29m2_25 : decode prog_29_method_2_code 25 = .ok (.invokeinterface 13 2, 5) := by decide +kernel
theorem d_prog_29m2_30 : decode prog_29_method_2_code 30 = .ok (.bipush 45, 2) := by decide +kernel
theorem d_prog_29m2_32 : decode prog_29_method_2_code 32 = .ok (.if_icmp .ne 7, 3) := by decide +kernel
theorem d_prog_29m2_51 : decode prog_29_method_2_code 51 = .ok (.aload_n 0, 1) := by decide +kernel
theorem d_prog_29m2_52 : decode prog_29_method_2_code 52 = .ok (.iload_n 2, 1) := by decide +kernel
theorem d_prog_29m2_53 : decode prog_29_method_2_code 53 = .ok (.invokeinterface 13 2, 5) := by decide +kernel
theorem d_prog_29m2_58 : decode prog_29_method_2_code 58 = .ok (.istore 5, 2) := by decide +kernel
theorem d_prog_29m2_60 : decode prog_29_method_2_code 60 = .ok (.iload 5, 2) := by decide +kernel
theorem d_prog_29m2_62 : decode prog_29_method_2_code 62 = .ok (.bipush 48, 2) := by decide +kernel
theorem d_prog_29m2_64 : decode prog_29_method_2_code 64 = .ok (.if_icmp .lt 15, 3) := by decide +kernel
theorem d_prog_29m2_79 : decode prog_29_method_2_code 79 = .ok (.iload 5, 2) := by decide +kernel
theorem d_prog_29m2_81 : decode prog_29_method_2_code 81 = .ok (.bipush 46, 2) := by decide +kernel
theorem d_prog_29m2_83 : decode prog_29_method_2_code 83 = .ok (.if_icmp .ne 14, 3) := by decide +kernel
theorem d_prog_29m2_86 : decode prog_29_method_2_code 86 = .ok (.iload 4, 2) := by decide +kernel
theorem d_prog_29m2_88 : decode prog_29_method_2_code 88 = .ok (.ifCond .ne 9, 3) := by decide +kernel
theorem d_prog_29m2_91 : decode prog_29_method_2_code 91 = .ok (.iconst 1, 1) := by decide +kernel
theorem d_prog_29m2_92 : decode prog_29_method_2_code 92 = .ok (.istore 4, 2) := by decide +kernel
theorem d_prog_29m2_94 : decode prog_29_method_2_code 94 = .ok (.goto 5, 3) := by decide +kernel
theorem d_prog_29m2_99 : decode prog_29_method_2_code 99 = .ok (.iinc 2 1, 3) := by decide +kernel
theorem d_prog_29m2_102 : decode prog_29_method_2_code 102 = .ok (.goto (-56), 3) := by decide +kernel
theorem d_prog_29m2_97 : decode prog_29_method_2_code 97 = .ok (.iconst 0, 1) := by decide +kernel
theorem d_prog_29m2_98 : decode prog_29_method_2_code 98 = .ok (.ireturn, 1) := by decide +kernel
theorem d_prog_29m2_67 : decode prog_29_method_2_code 67 = .ok (.iload 5, 2) := by decide +kernel
theorem d_prog_29m2_69 : decode prog_29_method_2_code 69 = .ok (.bipush 57, 2) := by decide +kernel
theorem d_prog_29m2_71 : decode prog_29_method_2_code 71 = .ok (.if_icmp .gt 8, 3) := by decide +kernel
theorem d_prog_29m2_74 : decode prog_29_method_2_code 74 = .ok (.iconst 1, 1) := by decide +kernel
theorem d_prog_29m2_75 : decode prog_29_method_2_code 75 = .ok (.istore_n 3, 1) := by decide +kernel
theorem d_prog_29m2_76 : decode prog_29_method_2_code 76 = .ok (.goto 23, 3) := by decide +kernel
theorem pn_0 : plainName "java/lang/StringUTF16" = true := by first | (simp [plainName, overriddenIn]; done) | decide +kernel
theorem pn_1 : plainName "java/lang/String" = true := by first | (simp [plainName, overriddenIn]; done) | decide +kernel
theorem pn_2 : plainName "jdk/internal/util/Preconditions" = true := by first | (simp [plainName, overriddenIn]; done) | decide +kernel
theorem pn_3 : plainName "java/lang/StringLatin1" = true := by first | (simp [plainName, overriddenIn]; done) | decide +kernel
theorem pn_4 : plainName "com/example/twelfths/twelfths/input/PlainDecimalIsPlainPinLaw" = true := by first | (simp [plainName, overriddenIn]; done) | decide +kernel
theorem pn_5 : plainName "com/example/twelfths/twelfths/input/PlainDecimal" = true := by first | (simp [plainName, overriddenIn]; done) | decide +kernel
theorem pd_0 : parseMethodDescriptor "(I)I" = some ⟨[.int], some .int⟩ := by decide +kernel
theorem pd_1 : parseMethodDescriptor "(I)[B" = some ⟨[.int], some (.array .byte)⟩ := by decide +kernel
theorem pd_2 : parseMethodDescriptor "([BII)V" = some ⟨[(.array .byte), .int, .int], none⟩ := by decide +kernel
theorem pd_3 : parseMethodDescriptor "([CI[BII)I" = some ⟨[(.array .char), .int, (.array .byte), .int, .int], some .int⟩ := by decide +kernel
theorem pd_4 : parseMethodDescriptor "([CII)[B" = some ⟨[(.array .char), .int, .int], some (.array .byte)⟩ := by decide +kernel
theorem pd_5 : parseMethodDescriptor "([BI)C" = some ⟨[(.array .byte), .int], some .char⟩ := by decide +kernel
theorem pd_6 : parseMethodDescriptor "([BI)B" = some ⟨[(.array .byte), .int], some .byte⟩ := by decide +kernel
theorem pd_7 : parseMethodDescriptor "([CIILjava/lang/Void;)V" = some ⟨[(.array .char), .int, .int, (.object "java/lang/Void")], none⟩ := by decide +kernel
theorem pd_8 : parseMethodDescriptor "(IILjava/util/function/BiFunction;)I" = some ⟨[.int, .int, (.object "java/util/function/BiFunction")], some .int⟩ := by decide +kernel
theorem pd_9 : parseMethodDescriptor "(II)V" = some ⟨[.int, .int], none⟩ := by decide +kernel
theorem pd_10 : parseMethodDescriptor "([B)I" = some ⟨[(.array .byte)], some .int⟩ := by decide +kernel
theorem pd_11 : parseMethodDescriptor "(I[B)V" = some ⟨[.int, (.array .byte)], none⟩ := by decide +kernel
theorem pd_12 : parseMethodDescriptor "()Z" = some ⟨[], some .boolean⟩ := by decide +kernel
theorem pd_13 : parseMethodDescriptor "(III)Z" = some ⟨[.int, .int, .int], some .boolean⟩ := by decide +kernel
theorem pd_14 : parseMethodDescriptor "(C)Z" = some ⟨[.char], some .boolean⟩ := by decide +kernel
theorem pd_15 : parseMethodDescriptor "()I" = some ⟨[], some .int⟩ := by decide +kernel
theorem pd_16 : parseMethodDescriptor "(I)C" = some ⟨[.int], some .char⟩ := by decide +kernel
theorem pd_17 : parseMethodDescriptor "([C)V" = some ⟨[(.array .char)], none⟩ := by decide +kernel
theorem pd_18 : parseMethodDescriptor "(CIII)I" = some ⟨[.char, .int, .int, .int], some .int⟩ := by decide +kernel
theorem pd_19 : parseMethodDescriptor "(Ljava/lang/CharSequence;)Z" = some ⟨[(.object "java/lang/CharSequence")], some .boolean⟩ := by decide +kernel
theorem ef_cGet (m : MethodId) (t : Addr) (i : Int32) : entryFrame m #[(.ref t), (.int i)] 2 = mkF m 0 #[.val (.ref t), .val (.int i)] [] := by first | (simp [entryFrame, mkF, argsToLocals, Value.category]; done) | rfl
theorem ef_cNL_1 (m : MethodId)  : entryFrame m #[(.int (1 : Int32))] 1 = mkF m 0 #[.val (.int (1 : Int32))] [] := by first | (simp [entryFrame, mkF, argsToLocals, Value.category]; done) | rfl
theorem ef_cNB_1 (m : MethodId)  : entryFrame m #[(.int (1 : Int32))] 1 = mkF m 0 #[.val (.int (1 : Int32))] [] := by first | (simp [entryFrame, mkF, argsToLocals, Value.category]; done) | rfl
theorem ef_cPut_1_0 (m : MethodId) (t : Addr) (ch : Int32) : entryFrame m #[(.ref t), (.int (0 : Int32)), (.int ch)] 3 = mkF m 0 #[.val (.ref t), .val (.int (0 : Int32)), .val (.int ch)] [] := by first | (simp [entryFrame, mkF, argsToLocals, Value.category]; done) | rfl
theorem ef_cToB_1 (m : MethodId) (b : Addr) : entryFrame m #[(.ref b), (.int (0 : Int32)), (.int (1 : Int32))] 5 = mkF m 0 #[.val (.ref b), .val (.int (0 : Int32)), .val (.int (1 : Int32)), .unset, .unset] [] := by first | (simp [entryFrame, mkF, argsToLocals, Value.category]; done) | rfl
theorem ef_cC5_1 (m : MethodId) (b : Addr) (d : Addr) : entryFrame m #[(.ref b), (.int (0 : Int32)), (.ref d), (.int (0 : Int32)), (.int (1 : Int32))] 7 = mkF m 0 #[.val (.ref b), .val (.int (0 : Int32)), .val (.ref d), .val (.int (0 : Int32)), .val (.int (1 : Int32)), .unset, .unset] [] := by first | (simp [entryFrame, mkF, argsToLocals, Value.category]; done) | rfl
theorem ef_cC3_1 (m : MethodId) (b : Addr) : entryFrame m #[(.ref b), (.int (0 : Int32)), (.int (1 : Int32))] 6 = mkF m 0 #[.val (.ref b), .val (.int (0 : Int32)), .val (.int (1 : Int32)), .unset, .unset, .unset] [] := by first | (simp [entryFrame, mkF, argsToLocals, Value.category]; done) | rfl
theorem ef_cCod_1_0 (m : MethodId) (t : Addr) : entryFrame m #[(.ref t), (.int (1 : Int32))] 2 = mkF m 0 #[.val (.ref t), .val (.int (1 : Int32))] [] := by first | (simp [entryFrame, mkF, argsToLocals, Value.category]; done) | rfl
theorem ef_cCod_1_1 (m : MethodId) (t : Addr) : entryFrame m #[(.ref t), (.int (1 : Int32))] 2 = mkF m 0 #[.val (.ref t), .val (.int (1 : Int32))] [] := by first | (simp [entryFrame, mkF, argsToLocals, Value.category]; done) | rfl
theorem ef_cN4_1 (m : MethodId) (x : Addr) (b : Addr) : entryFrame m #[(.ref x), (.ref b), (.int (0 : Int32)), (.int (1 : Int32)), .null] 6 = mkF m 0 #[.val (.ref x), .val (.ref b), .val (.int (0 : Int32)), .val (.int (1 : Int32)), .val .null, .unset] [] := by first | (simp [entryFrame, mkF, argsToLocals, Value.category]; done) | rfl
theorem ef_cN1_1 (m : MethodId) (x : Addr) (b : Addr) : entryFrame m #[(.ref x), (.ref b)] 2 = mkF m 0 #[.val (.ref x), .val (.ref b)] [] := by first | (simp [entryFrame, mkF, argsToLocals, Value.category]; done) | rfl
theorem ef_cNL_2 (m : MethodId)  : entryFrame m #[(.int (2 : Int32))] 1 = mkF m 0 #[.val (.int (2 : Int32))] [] := by first | (simp [entryFrame, mkF, argsToLocals, Value.category]; done) | rfl
theorem ef_cNB_2 (m : MethodId)  : entryFrame m #[(.int (2 : Int32))] 1 = mkF m 0 #[.val (.int (2 : Int32))] [] := by first | (simp [entryFrame, mkF, argsToLocals, Value.category]; done) | rfl
theorem ef_cPut_2_0 (m : MethodId) (t : Addr) (ch : Int32) : entryFrame m #[(.ref t), (.int (0 : Int32)), (.int ch)] 3 = mkF m 0 #[.val (.ref t), .val (.int (0 : Int32)), .val (.int ch)] [] := by first | (simp [entryFrame, mkF, argsToLocals, Value.category]; done) | rfl
theorem ef_cPut_2_1 (m : MethodId) (t : Addr) (ch : Int32) : entryFrame m #[(.ref t), (.int (1 : Int32)), (.int ch)] 3 = mkF m 0 #[.val (.ref t), .val (.int (1 : Int32)), .val (.int ch)] [] := by first | (simp [entryFrame, mkF, argsToLocals, Value.category]; done) | rfl
theorem ef_cToB_2 (m : MethodId) (b : Addr) : entryFrame m #[(.ref b), (.int (0 : Int32)), (.int (2 : Int32))] 5 = mkF m 0 #[.val (.ref b), .val (.int (0 : Int32)), .val (.int (2 : Int32)), .unset, .unset] [] := by first | (simp [entryFrame, mkF, argsToLocals, Value.category]; done) | rfl
theorem ef_cC5_2 (m : MethodId) (b : Addr) (d : Addr) : entryFrame m #[(.ref b), (.int (0 : Int32)), (.ref d), (.int (0 : Int32)), (.int (2 : Int32))] 7 = mkF m 0 #[.val (.ref b), .val (.int (0 : Int32)), .val (.ref d), .val (.int (0 : Int32)), .val (.int (2 : Int32)), .unset, .unset] [] := by first | (simp [entryFrame, mkF, argsToLocals, Value.category]; done) | rfl
theorem ef_cC3_2 (m : MethodId) (b : Addr) : entryFrame m #[(.ref b), (.int (0 : Int32)), (.int (2 : Int32))] 6 = mkF m 0 #[.val (.ref b), .val (.int (0 : Int32)), .val (.int (2 : Int32)), .unset, .unset, .unset] [] := by first | (simp [entryFrame, mkF, argsToLocals, Value.category]; done) | rfl
theorem ef_cCod_2_0 (m : MethodId) (t : Addr) : entryFrame m #[(.ref t), (.int (2 : Int32))] 2 = mkF m 0 #[.val (.ref t), .val (.int (2 : Int32))] [] := by first | (simp [entryFrame, mkF, argsToLocals, Value.category]; done) | rfl
theorem ef_cCod_2_1 (m : MethodId) (t : Addr) : entryFrame m #[(.ref t), (.int (2 : Int32))] 2 = mkF m 0 #[.val (.ref t), .val (.int (2 : Int32))] [] := by first | (simp [entryFrame, mkF, argsToLocals, Value.category]; done) | rfl
theorem ef_cN4_2 (m : MethodId) (x : Addr) (b : Addr) : entryFrame m #[(.ref x), (.ref b), (.int (0 : Int32)), (.int (2 : Int32)), .null] 6 = mkF m 0 #[.val (.ref x), .val (.ref b), .val (.int (0 : Int32)), .val (.int (2 : Int32)), .val .null, .unset] [] := by first | (simp [entryFrame, mkF, argsToLocals, Value.category]; done) | rfl
theorem ef_cN1_2 (m : MethodId) (x : Addr) (b : Addr) : entryFrame m #[(.ref x), (.ref b)] 2 = mkF m 0 #[.val (.ref x), .val (.ref b)] [] := by first | (simp [entryFrame, mkF, argsToLocals, Value.category]; done) | rfl
theorem ef_cNL_3 (m : MethodId)  : entryFrame m #[(.int (3 : Int32))] 1 = mkF m 0 #[.val (.int (3 : Int32))] [] := by first | (simp [entryFrame, mkF, argsToLocals, Value.category]; done) | rfl
theorem ef_cNB_3 (m : MethodId)  : entryFrame m #[(.int (3 : Int32))] 1 = mkF m 0 #[.val (.int (3 : Int32))] [] := by first | (simp [entryFrame, mkF, argsToLocals, Value.category]; done) | rfl
theorem ef_cPut_3_0 (m : MethodId) (t : Addr) (ch : Int32) : entryFrame m #[(.ref t), (.int (0 : Int32)), (.int ch)] 3 = mkF m 0 #[.val (.ref t), .val (.int (0 : Int32)), .val (.int ch)] [] := by first | (simp [entryFrame, mkF, argsToLocals, Value.category]; done) | rfl
theorem ef_cPut_3_1 (m : MethodId) (t : Addr) (ch : Int32) : entryFrame m #[(.ref t), (.int (1 : Int32)), (.int ch)] 3 = mkF m 0 #[.val (.ref t), .val (.int (1 : Int32)), .val (.int ch)] [] := by first | (simp [entryFrame, mkF, argsToLocals, Value.category]; done) | rfl
theorem ef_cPut_3_2 (m : MethodId) (t : Addr) (ch : Int32) : entryFrame m #[(.ref t), (.int (2 : Int32)), (.int ch)] 3 = mkF m 0 #[.val (.ref t), .val (.int (2 : Int32)), .val (.int ch)] [] := by first | (simp [entryFrame, mkF, argsToLocals, Value.category]; done) | rfl
theorem ef_cToB_3 (m : MethodId) (b : Addr) : entryFrame m #[(.ref b), (.int (0 : Int32)), (.int (3 : Int32))] 5 = mkF m 0 #[.val (.ref b), .val (.int (0 : Int32)), .val (.int (3 : Int32)), .unset, .unset] [] := by first | (simp [entryFrame, mkF, argsToLocals, Value.category]; done) | rfl
theorem ef_cC5_3 (m : MethodId) (b : Addr) (d : Addr) : entryFrame m #[(.ref b), (.int (0 : Int32)), (.ref d), (.int (0 : Int32)), (.int (3 : Int32))] 7 = mkF m 0 #[.val (.ref b), .val (.int (0 : Int32)), .val (.ref d), .val (.int (0 : Int32)), .val (.int (3 : Int32)), .unset, .unset] [] := by first | (simp [entryFrame, mkF, argsToLocals, Value.category]; done) | rfl
theorem ef_cC3_3 (m : MethodId) (b : Addr) : entryFrame m #[(.ref b), (.int (0 : Int32)), (.int (3 : Int32))] 6 = mkF m 0 #[.val (.ref b), .val (.int (0 : Int32)), .val (.int (3 : Int32)), .unset, .unset, .unset] [] := by first | (simp [entryFrame, mkF, argsToLocals, Value.category]; done) | rfl
theorem ef_cCod_3_0 (m : MethodId) (t : Addr) : entryFrame m #[(.ref t), (.int (3 : Int32))] 2 = mkF m 0 #[.val (.ref t), .val (.int (3 : Int32))] [] := by first | (simp [entryFrame, mkF, argsToLocals, Value.category]; done) | rfl
theorem ef_cCod_3_1 (m : MethodId) (t : Addr) : entryFrame m #[(.ref t), (.int (3 : Int32))] 2 = mkF m 0 #[.val (.ref t), .val (.int (3 : Int32))] [] := by first | (simp [entryFrame, mkF, argsToLocals, Value.category]; done) | rfl
theorem ef_cN4_3 (m : MethodId) (x : Addr) (b : Addr) : entryFrame m #[(.ref x), (.ref b), (.int (0 : Int32)), (.int (3 : Int32)), .null] 6 = mkF m 0 #[.val (.ref x), .val (.ref b), .val (.int (0 : Int32)), .val (.int (3 : Int32)), .val .null, .unset] [] := by first | (simp [entryFrame, mkF, argsToLocals, Value.category]; done) | rfl
theorem ef_cN1_3 (m : MethodId) (x : Addr) (b : Addr) : entryFrame m #[(.ref x), (.ref b)] 2 = mkF m 0 #[.val (.ref x), .val (.ref b)] [] := by first | (simp [entryFrame, mkF, argsToLocals, Value.category]; done) | rfl
theorem ef_cNL_4 (m : MethodId)  : entryFrame m #[(.int (4 : Int32))] 1 = mkF m 0 #[.val (.int (4 : Int32))] [] := by first | (simp [entryFrame, mkF, argsToLocals, Value.category]; done) | rfl
theorem ef_cNB_4 (m : MethodId)  : entryFrame m #[(.int (4 : Int32))] 1 = mkF m 0 #[.val (.int (4 : Int32))] [] := by first | (simp [entryFrame, mkF, argsToLocals, Value.category]; done) | rfl
theorem ef_cPut_4_0 (m : MethodId) (t : Addr) (ch : Int32) : entryFrame m #[(.ref t), (.int (0 : Int32)), (.int ch)] 3 = mkF m 0 #[.val (.ref t), .val (.int (0 : Int32)), .val (.int ch)] [] := by first | (simp [entryFrame, mkF, argsToLocals, Value.category]; done) | rfl
theorem ef_cPut_4_1 (m : MethodId) (t : Addr) (ch : Int32) : entryFrame m #[(.ref t), (.int (1 : Int32)), (.int ch)] 3 = mkF m 0 #[.val (.ref t), .val (.int (1 : Int32)), .val (.int ch)] [] := by first | (simp [entryFrame, mkF, argsToLocals, Value.category]; done) | rfl
theorem ef_cPut_4_2 (m : MethodId) (t : Addr) (ch : Int32) : entryFrame m #[(.ref t), (.int (2 : Int32)), (.int ch)] 3 = mkF m 0 #[.val (.ref t), .val (.int (2 : Int32)), .val (.int ch)] [] := by first | (simp [entryFrame, mkF, argsToLocals, Value.category]; done) | rfl
theorem ef_cPut_4_3 (m : MethodId) (t : Addr) (ch : Int32) : entryFrame m #[(.ref t), (.int (3 : Int32)), (.int ch)] 3 = mkF m 0 #[.val (.ref t), .val (.int (3 : Int32)), .val (.int ch)] [] := by first | (simp [entryFrame, mkF, argsToLocals, Value.category]; done) | rfl
theorem ef_cToB_4 (m : MethodId) (b : Addr) : entryFrame m #[(.ref b), (.int (0 : Int32)), (.int (4 : Int32))] 5 = mkF m 0 #[.val (.ref b), .val (.int (0 : Int32)), .val (.int (4 : Int32)), .unset, .unset] [] := by first | (simp [entryFrame, mkF, argsToLocals, Value.category]; done) | rfl
theorem ef_cC5_4 (m : MethodId) (b : Addr) (d : Addr) : entryFrame m #[(.ref b), (.int (0 : Int32)), (.ref d), (.int (0 : Int32)), (.int (4 : Int32))] 7 = mkF m 0 #[.val (.ref b), .val (.int (0 : Int32)), .val (.ref d), .val (.int (0 : Int32)), .val (.int (4 : Int32)), .unset, .unset] [] := by first | (simp [entryFrame, mkF, argsToLocals, Value.category]; done) | rfl
theorem ef_cC3_4 (m : MethodId) (b : Addr) : entryFrame m #[(.ref b), (.int (0 : Int32)), (.int (4 : Int32))] 6 = mkF m 0 #[.val (.ref b), .val (.int (0 : Int32)), .val (.int (4 : Int32)), .unset, .unset, .unset] [] := by first | (simp [entryFrame, mkF, argsToLocals, Value.category]; done) | rfl
theorem ef_cCod_4_0 (m : MethodId) (t : Addr) : entryFrame m #[(.ref t), (.int (4 : Int32))] 2 = mkF m 0 #[.val (.ref t), .val (.int (4 : Int32))] [] := by first | (simp [entryFrame, mkF, argsToLocals, Value.category]; done) | rfl
theorem ef_cCod_4_1 (m : MethodId) (t : Addr) : entryFrame m #[(.ref t), (.int (4 : Int32))] 2 = mkF m 0 #[.val (.ref t), .val (.int (4 : Int32))] [] := by first | (simp [entryFrame, mkF, argsToLocals, Value.category]; done) | rfl
theorem ef_cN4_4 (m : MethodId) (x : Addr) (b : Addr) : entryFrame m #[(.ref x), (.ref b), (.int (0 : Int32)), (.int (4 : Int32)), .null] 6 = mkF m 0 #[.val (.ref x), .val (.ref b), .val (.int (0 : Int32)), .val (.int (4 : Int32)), .val .null, .unset] [] := by first | (simp [entryFrame, mkF, argsToLocals, Value.category]; done) | rfl
theorem ef_cN1_4 (m : MethodId) (x : Addr) (b : Addr) : entryFrame m #[(.ref x), (.ref b)] 2 = mkF m 0 #[.val (.ref x), .val (.ref b)] [] := by first | (simp [entryFrame, mkF, argsToLocals, Value.category]; done) | rfl
theorem ef_cE4 (m : MethodId) (x : Addr) (b : Addr) : entryFrame m #[(.ref x), (.ref b), (.int (0 : Int32)), (.int (0 : Int32)), .null] 6 = mkF m 0 #[.val (.ref x), .val (.ref b), .val (.int (0 : Int32)), .val (.int (0 : Int32)), .val .null, .unset] [] := by first | (simp [entryFrame, mkF, argsToLocals, Value.category]; done) | rfl
theorem ef_cE1 (m : MethodId) (x : Addr) (b : Addr) : entryFrame m #[(.ref x), (.ref b)] 2 = mkF m 0 #[.val (.ref x), .val (.ref b)] [] := by first | (simp [entryFrame, mkF, argsToLocals, Value.category]; done) | rfl
theorem ef_cIL_0 (m : MethodId) (x : Addr) : entryFrame m #[(.ref x)] 1 = mkF m 0 #[.val (.ref x)] [] := by first | (simp [entryFrame, mkF, argsToLocals, Value.category]; done) | rfl
theorem ef_cIL_1 (m : MethodId) (x : Addr) : entryFrame m #[(.ref x)] 1 = mkF m 0 #[.val (.ref x)] [] := by first | (simp [entryFrame, mkF, argsToLocals, Value.category]; done) | rfl
theorem ef_cPCI_r (m : MethodId) (i : Int32) (j : Int32) (fa : Addr) : entryFrame m #[(.int i), (.int j), (.ref fa)] 3 = mkF m 0 #[.val (.int i), .val (.int j), .val (.ref fa)] [] := by first | (simp [entryFrame, mkF, argsToLocals, Value.category]; done) | rfl
theorem ef_cPCI_n (m : MethodId) (i : Int32) (j : Int32) : entryFrame m #[(.int i), (.int j), .null] 3 = mkF m 0 #[.val (.int i), .val (.int j), .val .null] [] := by first | (simp [entryFrame, mkF, argsToLocals, Value.category]; done) | rfl
theorem ef_cSCI (m : MethodId) (i : Int32) (j : Int32) : entryFrame m #[(.int i), (.int j)] 2 = mkF m 0 #[.val (.int i), .val (.int j)] [] := by first | (simp [entryFrame, mkF, argsToLocals, Value.category]; done) | rfl
theorem ef_cUL (m : MethodId) (t : Addr) : entryFrame m #[(.ref t)] 1 = mkF m 0 #[.val (.ref t)] [] := by first | (simp [entryFrame, mkF, argsToLocals, Value.category]; done) | rfl
theorem ef_cLCh (m : MethodId) (t : Addr) (i : Int32) : entryFrame m #[(.ref t), (.int i)] 2 = mkF m 0 #[.val (.ref t), .val (.int i)] [] := by first | (simp [entryFrame, mkF, argsToLocals, Value.category]; done) | rfl
theorem ef_cUCI (m : MethodId) (i : Int32) (t : Addr) : entryFrame m #[(.int i), (.ref t)] 2 = mkF m 0 #[.val (.int i), .val (.ref t)] [] := by first | (simp [entryFrame, mkF, argsToLocals, Value.category]; done) | rfl
theorem ef_cUCh (m : MethodId) (t : Addr) (i : Int32) : entryFrame m #[(.ref t), (.int i)] 2 = mkF m 0 #[.val (.ref t), .val (.int i)] [] := by first | (simp [entryFrame, mkF, argsToLocals, Value.category]; done) | rfl
theorem ef_cSCh_1_0 (m : MethodId) (x : Addr) : entryFrame m #[(.ref x), (.int (0 : Int32))] 2 = mkF m 0 #[.val (.ref x), .val (.int (0 : Int32))] [] := by first | (simp [entryFrame, mkF, argsToLocals, Value.category]; done) | rfl
theorem ef_cSCh_2_0 (m : MethodId) (x : Addr) : entryFrame m #[(.ref x), (.int (0 : Int32))] 2 = mkF m 0 #[.val (.ref x), .val (.int (0 : Int32))] [] := by first | (simp [entryFrame, mkF, argsToLocals, Value.category]; done) | rfl
theorem ef_cSCh_2_1 (m : MethodId) (x : Addr) : entryFrame m #[(.ref x), (.int (1 : Int32))] 2 = mkF m 0 #[.val (.ref x), .val (.int (1 : Int32))] [] := by first | (simp [entryFrame, mkF, argsToLocals, Value.category]; done) | rfl
theorem ef_cSCh_3_0 (m : MethodId) (x : Addr) : entryFrame m #[(.ref x), (.int (0 : Int32))] 2 = mkF m 0 #[.val (.ref x), .val (.int (0 : Int32))] [] := by first | (simp [entryFrame, mkF, argsToLocals, Value.category]; done) | rfl
theorem ef_cSCh_3_1 (m : MethodId) (x : Addr) : entryFrame m #[(.ref x), (.int (1 : Int32))] 2 = mkF m 0 #[.val (.ref x), .val (.int (1 : Int32))] [] := by first | (simp [entryFrame, mkF, argsToLocals, Value.category]; done) | rfl
theorem ef_cSCh_3_2 (m : MethodId) (x : Addr) : entryFrame m #[(.ref x), (.int (2 : Int32))] 2 = mkF m 0 #[.val (.ref x), .val (.int (2 : Int32))] [] := by first | (simp [entryFrame, mkF, argsToLocals, Value.category]; done) | rfl
theorem ef_cSCh_4_0 (m : MethodId) (x : Addr) : entryFrame m #[(.ref x), (.int (0 : Int32))] 2 = mkF m 0 #[.val (.ref x), .val (.int (0 : Int32))] [] := by first | (simp [entryFrame, mkF, argsToLocals, Value.category]; done) | rfl
theorem ef_cSCh_4_1 (m : MethodId) (x : Addr) : entryFrame m #[(.ref x), (.int (1 : Int32))] 2 = mkF m 0 #[.val (.ref x), .val (.int (1 : Int32))] [] := by first | (simp [entryFrame, mkF, argsToLocals, Value.category]; done) | rfl
theorem ef_cSCh_4_2 (m : MethodId) (x : Addr) : entryFrame m #[(.ref x), (.int (2 : Int32))] 2 = mkF m 0 #[.val (.ref x), .val (.int (2 : Int32))] [] := by first | (simp [entryFrame, mkF, argsToLocals, Value.category]; done) | rfl
theorem ef_cSCh_4_3 (m : MethodId) (x : Addr) : entryFrame m #[(.ref x), (.int (3 : Int32))] 2 = mkF m 0 #[.val (.ref x), .val (.int (3 : Int32))] [] := by first | (simp [entryFrame, mkF, argsToLocals, Value.category]; done) | rfl
theorem ef_cDr (m : MethodId) (i : Int32) : entryFrame m #[(.int i)] 3 = mkF m 0 #[.val (.int i), .unset, .unset] [] := by first | (simp [entryFrame, mkF, argsToLocals, Value.category]; done) | rfl
theorem ef_cIn (m : MethodId) (i : Int32) (f : Int32) (n : Int32) : entryFrame m #[(.int i), (.int f), (.int n)] 3 = mkF m 0 #[.val (.int i), .val (.int f), .val (.int n)] [] := by first | (simp [entryFrame, mkF, argsToLocals, Value.category]; done) | rfl
theorem ef_cDg (m : MethodId) (ch : Int32) : entryFrame m #[(.int ch)] 1 = mkF m 0 #[.val (.int ch)] [] := by first | (simp [entryFrame, mkF, argsToLocals, Value.category]; done) | rfl
theorem ef_cDi (m : MethodId) (ch : Int32) (i : Int32) (f : Int32) (n : Int32) : entryFrame m #[(.int ch), (.int i), (.int f), (.int n)] 4 = mkF m 0 #[.val (.int ch), .val (.int i), .val (.int f), .val (.int n)] [] := by first | (simp [entryFrame, mkF, argsToLocals, Value.category]; done) | rfl
theorem ef_cPt (m : MethodId) (ch : Int32) (i : Int32) (f : Int32) (n : Int32) : entryFrame m #[(.int ch), (.int i), (.int f), (.int n)] 4 = mkF m 0 #[.val (.int ch), .val (.int i), .val (.int f), .val (.int n)] [] := by first | (simp [entryFrame, mkF, argsToLocals, Value.category]; done) | rfl
theorem ef_cOt (m : MethodId) (ch : Int32) (i : Int32) (f : Int32) (n : Int32) : entryFrame m #[(.int ch), (.int i), (.int f), (.int n)] 4 = mkF m 0 #[.val (.int ch), .val (.int i), .val (.int f), .val (.int n)] [] := by first | (simp [entryFrame, mkF, argsToLocals, Value.category]; done) | rfl
theorem ef_cPl_0 (m : MethodId) (x : Addr) : entryFrame m #[(.ref x)] 6 = mkF m 0 #[.val (.ref x), .unset, .unset, .unset, .unset, .unset] [] := by first | (simp [entryFrame, mkF, argsToLocals, Value.category]; done) | rfl
theorem ef_cPl_1 (m : MethodId) (x : Addr) : entryFrame m #[(.ref x)] 6 = mkF m 0 #[.val (.ref x), .unset, .unset, .unset, .unset, .unset] [] := by first | (simp [entryFrame, mkF, argsToLocals, Value.category]; done) | rfl
theorem ef_cPl_2 (m : MethodId) (x : Addr) : entryFrame m #[(.ref x)] 6 = mkF m 0 #[.val (.ref x), .unset, .unset, .unset, .unset, .unset] [] := by first | (simp [entryFrame, mkF, argsToLocals, Value.category]; done) | rfl
theorem ef_cPl_3 (m : MethodId) (x : Addr) : entryFrame m #[(.ref x)] 6 = mkF m 0 #[.val (.ref x), .unset, .unset, .unset, .unset, .unset] [] := by first | (simp [entryFrame, mkF, argsToLocals, Value.category]; done) | rfl
theorem ef_cPl_4 (m : MethodId) (x : Addr) : entryFrame m #[(.ref x)] 6 = mkF m 0 #[.val (.ref x), .unset, .unset, .unset, .unset, .unset] [] := by first | (simp [entryFrame, mkF, argsToLocals, Value.category]; done) | rfl
theorem ef_cX (m : MethodId) (len : Int32) (i1 : Int32) (i2 : Int32) (i3 : Int32) (i4 : Int32) : entryFrame m #[(.int len), (.int i1), (.int i2), (.int i3), (.int i4)] maxLocals = mkF m 0 #[.val (.int len), .val (.int i1), .val (.int i2), .val (.int i3), .val (.int i4), .unset, .unset, .unset, .unset, .unset, .unset, .unset, .unset, .unset, .unset, .unset] [] := by first | (simp [entryFrame, mkF, argsToLocals, Value.category, maxLocals]; done) | rfl
/-- the object at a is a Latin-1 String of the chars cs -/
def LS (Z : State) (h : Heap) (a : Addr) (cs : List Int32) : Prop := ∃ (t : Addr) (kb : ClassId), Exa Z h a "java/lang/String" ∧ Fld Z h a "java/lang/String" "coder" "B" (.int 0) ∧ Fld Z h a "java/lang/String" "value" "[B" (.ref t) ∧ Arv Z h t kb .byte (Int32.ofNat cs.length) ((cs.map StrChars.lo8).map Value.int) (.int 0) ∧ (∀ c ∈ cs, ¬ c < 0 ∧ ¬ (255 : Int32) < c) ∧ cs.length ≤ 4000
theorem LS.ext {Z : State} {h h' : Heap} {a : Addr} {cs : List Int32} (F : LS Z h a cs) (E : Ext h h') : LS Z h' a cs := by
  obtain ⟨t, kb, f1, f2, f3, f4, f5⟩ := F; exact ⟨t, kb, f1.ext E, f2.ext E, f3.ext E, f4.ext E, f5⟩
theorem LS.exa {Z : State} {h : Heap} {a : Addr} {cs : List Int32} (F : LS Z h a cs) : Exa Z h a "java/lang/String" := by obtain ⟨t, kb, f1, -⟩ := F; exact f1
theorem LS.lt {Z : State} {h : Heap} {a : Addr} {cs : List Int32} (F : LS Z h a cs) : a < h.size := F.exa.lt
theorem up255 {cs : List Int32} (h : ∀ c ∈ cs, ¬ c < 0 ∧ ¬ (255 : Int32) < c) : ∀ c ∈ cs, ¬ c < 0 ∧ ¬ (65535 : Int32) < c := fun c hc => ⟨(h c hc).1, fun q => (h c hc).2 (Int32.lt_trans (by decide) q)⟩
section Wide
variable {p : Program} {l : Launch} {e : Env} {R : Room} {m : MethodId} {args : Array Value} {below : List Frame} {meth : Method} {c : Code} {own : String} {bytes : ByteArray} {maxL : Nat} {Z s s' T : State} {EL : List (String × Nat)} {locs : List Loc} {cells slots : Nat} {h h' : Heap} {G : Outcome → State → Prop} {pc : Nat} {Ls : Array Slot} {S : List Value} {a0 : Array Value} {Q : Option Value → Heap → List Loc → Prop} {ck sk : Nat} {a : Addr} {sl : Nat} {v : Value} {ws : List Addr}
/-- the invariant of a walk that may load literals: the tables have gone on from s's, and the constants of EL say their texts -/
def WI (Z : State) (EL : List (String × Nat)) (s : State) : State → Heap → Prop := fun s' h => ∃ vm0 k0, s' = s.setVm vm0 ∧ s.Since vm0 k0 ∧ k0 ≤ h.size ∧ CHr Z EL s.vm s.heap vm0 h
theorem WI.ext (H : WI Z EL s s' h) (E : Ext h h') : WI Z EL s s' h' := by
  obtain ⟨vm0, k0, q1, q2, q3, q4⟩ := H; exact ⟨vm0, k0, q1, q2, Nat.le_trans q3 E.1, q4.trans (CHr.ext E q4.1)⟩
theorem WI.wr (H : WI Z EL s s' h) (S : Safe Z EL s'.vm h a) (W : Wr h h' a sl v) : WI Z EL s s' h' := by
  obtain ⟨vm0, k0, rfl, q2, q3, q4⟩ := H
  exact ⟨vm0, k0, rfl, q2, by rw [W.size]; exact q3, q4.trans (CHr.wr W S q4.1)⟩
theorem WI.keep (H : WI Z EL s s' h) (S : ∀ x ∈ ws, Safe Z EL s'.vm h x) (K : Keep h h' ws) : WI Z EL s s' h' := by
  obtain ⟨vm0, k0, rfl, q2, q3, q4⟩ := H
  exact ⟨vm0, k0, rfl, q2, Nat.le_trans q3 K.1, q4.trans (CHr.keep K S q4.1)⟩
theorem WI.chv (H : WI Z EL s s' h) : CHv Z EL s'.vm h := by obtain ⟨vm0, k0, rfl, q2, q3, q4⟩ := H; exact q4.1
theorem WI.safeExt (H : WI Z EL s s' h) (E : Ext h h') (S : Safe Z EL s'.vm h a) : Safe Z EL s'.vm h' a := S.ext E H.chv
theorem WI.safeNew (H : WI Z EL s s' h) (E : Ext h h') (q : a = h.size) : Safe Z EL s'.vm h' a := Safe.ext E H.chv (Safe.new (Nat.le_of_eq q.symm))
theorem WI.safeWr {b : Addr} (H : WI Z EL s s' h) (Sb : Safe Z EL s'.vm h b) (W : Wr h h' b sl v) (S : Safe Z EL s'.vm h a) : Safe Z EL s'.vm h' a := Safe.wr W Sb H.chv S
theorem WI.safeKeep (H : WI Z EL s s' h) (Sb : ∀ x ∈ ws, Safe Z EL s'.vm h x) (K : Keep h h' ws) (S : Safe Z EL s'.vm h a) : Safe Z EL s'.vm h' a := Safe.keep K Sb H.chv S
/-- what a walk that may load literals ends in -/
def WG (Z : State) (EL : List (String × Nat)) (s : State) (Q : Option Value → Heap → List Loc → Prop) (ck sk : Nat) : Outcome → State → Prop := fun o U' => ∃ v L, o = .returned v ∧ Q v U'.heap L ∧ CHr Z EL s.vm s.heap U'.vm U'.heap ∧ ReturnedEndW s o U' L ck sk
theorem r_genw (D : Wk p l e R m args below meth c own bytes maxL Z (WI Z EL s) s' T locs cells slots h) (hEW : EW Z a0 EL) {v : Option Value} (hv : meth.sig.returnType = none → v = none) (hlk : meth.locks = false) (hst : ∀ fs, (∀ (f : JFrame) (acts : List Action), f.method = m → f.locked = none → f.entered = [] → (doReturn e (T.setTop f) acts v).1 = T.setFrames fs) → Steps p.tables e below (T.setTop (mkF m pc Ls S)) (T.setFrames fs)) (hQ : Q v h locs) (hc : cells ≤ ck) (hs : slots ≤ sk) : Go p e below (WG Z EL s Q ck sk) (T.setTop (mkF m pc Ls S)) := by
  obtain ⟨vm0, k0, rfl, q2, q3, q4⟩ := D.iv
  obtain ⟨fs, hr, hrun, hended, hW⟩ := D.st.leaveW q2 (by rw [D.eq]; exact q3) (v := v) hv hlk
  refine ⟨_, _, hst fs hr, hrun, hended, _, _, rfl, ?_, ?_, hW.1, hW.2.1, hW.2.2.1, hW.2.2.2.mono hc hs⟩
  · show Q v T.heap locs
    rw [D.eq]; exact hQ
  · show CHr Z EL s.vm s.heap T.vm T.heap
    rw [D.eq]; exact q4.trans (CHv.at D.st D.wm hEW q4.1)
theorem r_Iw (D : Wk p l e R m args below meth c own bytes maxL Z (WI Z EL s) s' T locs cells slots h) (hEW : EW Z a0 EL) {z : Int32} (hret : meth.sig.returnType = some .int) (hlk : meth.locks = false) (hd : decode bytes pc = .ok (.ireturn, 1)) (hQ : Q (some (.int z)) h locs) (hc : cells ≤ ck) (hs : slots ≤ sk) : Go p e below (WG Z EL s Q ck sk) (T.setTop (mkF m pc Ls (.int z :: S))) :=
  r_genw D hEW (fun h => by rw [hret] at h; cases h) hlk (fun fs hr => retOut D.st D.ex hret rfl (Or.inl ⟨rfl, Or.inl rfl, _, rfl⟩) (hb D.cb hd) hr) hQ hc hs
theorem r_Nw (D : Wk p l e R m args below meth c own bytes maxL Z (WI Z EL s) s' T locs cells slots h) (hEW : EW Z a0 EL) {t : FieldType} {z : Int32} (hret : meth.sig.returnType = some t) (ht : t = .boolean ∨ t = .byte ∨ t = .char ∨ t = .short) (hlk : meth.locks = false) (hd : decode bytes pc = .ok (.ireturn, 1)) (hQ : Q (some (.int (nar t z))) h locs) (hc : cells ≤ ck) (hs : slots ≤ sk) : Go p e below (WG Z EL s Q ck sk) (T.setTop (mkF m pc Ls (.int z :: S))) :=
  r_genw D hEW (fun h => by rw [hret] at h; cases h) hlk (fun fs hr => retN D.st D.ex hret ht (hb D.cb hd) hr) hQ hc hs
theorem r_Aw (D : Wk p l e R m args below meth c own bytes maxL Z (WI Z EL s) s' T locs cells slots h) (hEW : EW Z a0 EL) {t : FieldType} {w : Value} (hret : meth.sig.returnType = some t) (ht : t.isReference = true) (hw : w.isRef = true) (hlk : meth.locks = false) (hd : decode bytes pc = .ok (.areturn, 1)) (hQ : Q (some w) h locs) (hc : cells ≤ ck) (hs : slots ≤ sk) : Go p e below (WG Z EL s Q ck sk) (T.setTop (mkF m pc Ls (w :: S))) :=
  r_genw D hEW (fun h => by rw [hret] at h; cases h) hlk (fun fs hr => retOut D.st D.ex hret (by cases t <;> first | (cases ht; done) | rfl) (Or.inr (Or.inr (Or.inr (Or.inr ⟨rfl, ht, hw⟩)))) (hb D.cb hd) hr) hQ hc hs
theorem r_Vw (D : Wk p l e R m args below meth c own bytes maxL Z (WI Z EL s) s' T locs cells slots h) (hEW : EW Z a0 EL) (hret : meth.sig.returnType = none) (hlk : meth.locks = false) (hd : decode bytes pc = .ok (.return_, 1)) (hQ : Q none h locs) (hc : cells ≤ ck) (hs : slots ≤ sk) : Go p e below (WG Z EL s Q ck sk) (T.setTop (mkF m pc Ls [])) :=
  r_genw D hEW (fun _ => rfl) hlk (fun fs hr => D.st.returnOut D.ex hret (hb D.cb hd) hr) hQ hc hs
/-- a contract of a body that may load literals -/
abbrev ConW (l : Launch) (y : MethodName) (bytes : ByteArray) (maxL : Nat) (ret : Option FieldType) (ws : List Jvm.Cond) (rm : Room) (Z : State) (EL : List (String × Nat)) (as' : Array Value) (h0 : Heap) (Q : Option Value → Heap → List Loc → Prop) (ck sk : Nat) : Prop :=
  MetFree l y (head1 (Jvm.Cond.code y bytes maxL ret :: ws) rm) (fun a U => a = as' ∧ Z.Warmed39 U.vm ∧ U.heap = h0 ∧ CHv Z EL U.vm h0) (fun _ _ _ _ _ => True) (fun _ U o U' => ∃ v L, o = .returned v ∧ Q v U'.heap L ∧ CHr Z EL U.vm U.heap U'.vm U'.heap ∧ ReturnedEndW U o U' L ck sk)
theorem enterW {y : MethodName} {ret : Option FieldType} {ws : List Jvm.Cond} {rm : Room} {as' : Array Value} {h0 : Heap} (hpl : plainFor y = true)
    (k : ∀ p e s m below meth c s₁, meth.name = y.name → meth.sig.returnType = ret → meth.locks = false → Wk p l e rm m as' below meth c y.cls bytes maxL Z (WI Z EL s) s s₁ [] 0 0 h0 → Go p e below (WG Z EL s Q ck sk) (s₁.setTop (entryFrame m as' maxL))) :
    ConW l y bytes maxL ret ws rm Z EL as' h0 Q ck sk := by
  refine MetFree.of_bodySF hpl hisR ?_
  intro p e s m args below meth c s₁ Bd hml0 hP hK
  obtain ⟨rfl, hZ, hh, hC⟩ := hP
  have X0 : Stand p l e rm s m _ below meth c s₁ [] 0 0 := Stand.of_body Bd
  exact k p e s m below meth c s₁ (name_of_methodNamed Bd.named Bd.method).1 Bd.returns Bd.notSynchronized ⟨X0, by rw [← hh, Bd.state]; rfl, hZ, findClass_of_methodNamed Bd.named, Bd.exec, Bd.bytes, hml0, s.vm, s.heap.size, (State.setVm_self s).symm, (State.WarmedH.refl s).since _, by rw [hh]; exact Nat.le_refl _, by rw [hh]; exact CHr.refl hC⟩
theorem g_callSW (D : Wk p l e R m args below meth c own bytes maxL Z (WI Z EL s) s' T locs cells slots h) (pc' : Nat) {index : Nat} {y : MethodName} {bz : ByteArray} {mL : Nat} {ret' : Option FieldType} {rm : Room} {as' : Array Value} (hEW : EW Z a0 EL) (w1 : (Cond.methodLink own index y).before a0 Z = true) (w2 : (Cond.static y).before a0 Z = true) (w3 : (Cond.initialized y.cls).before a0 Z = true) (w4 : (Cond.code y bz mL ret').before a0 Z = true) (hy : y.cls ≠ "java/lang/invoke/MethodHandle" ∧ y.cls ≠ "java/lang/invoke/VarHandle")
    (hM : ConW l y bz mL ret' [] rm Z EL as' h Q rm.cells rm.slots) (hsz : Ls.size = maxL) (argsL : List Value) (has : argsL.toArray = as') (hlen : ∀ sig, parseMethodDescriptor y.desc = some sig → argsL.length = sig.parameters.length) {S0 : List Value} (hst : S0 = argsL.reverse ++ S) (W : Nat) (hW : (S.map fun v => v.category).sum ≤ W) (hf : rm.frames + 1 ≤ R.frames) (hlo : W + (mL + 11) + rm.locals ≤ R.locals) (hc : cells + rm.cells ≤ R.cells) (hl : slots + rm.slots ≤ R.slots) (hd : decode bytes pc = .ok (.invokestatic index, 3)) (hp : pc + 3 = pc')
    (hr : ∀ v s'' T' h' L, Q v h' L → (∀ x, x < h.size → Safe Z EL s'.vm h x → Safe Z EL s''.vm h' x) → Wk p l e R m args below meth c own bytes maxL Z (WI Z EL s) s'' T' (locs ++ L) (cells + rm.cells) (slots + rm.slots) h' → Go p e below G (T'.setTop (mkF m pc' Ls (v.toList ++ S)))) : Go p e below G (T.setTop (mkF m pc Ls S0)) := by
  subst hp hst
  obtain ⟨vm0, k0, rfl, q2, q3, q4⟩ := D.iv
  obtain ⟨v, _, ⟨T', L', k', n'⟩, -, X', hS', hg, ⟨L, hQ, l', y', z', hR⟩, st⟩ := callSS D.st D.ex D.ow (mvT D.wm w1) (mvT D.wm w2) (mvT D.wm w3) (mvT D.wm w4) hy (backOfSH (s := s) (W := W) hM D.wm w4 w3 hf hlo hEW q4.1) (g := mkF m pc Ls (argsL.reverse ++ S)) rfl (by rw [D.ml]; exact hsz) (argsL := argsL) (rest := S) hlen rfl (by simpa using hW) (hb D.cb hd) (fun _ _ => ⟨has, D.eq, hc, hl⟩)
  dsimp only at X' l' y' z' st hQ hS' hg hR
  subst l' y' z'
  obtain ⟨X2, S2, Z2, O2⟩ := rebS q2 (n1 := T.heap.size) (by rw [D.eq]; exact q3) X' hS' hg D.wm D.ow
  exact Go.mono (fun t k => st.trans k) (hr v (s.setVm T'.vm) T' T'.heap L hQ (fun x hx Sx => hR.safe hx Sx) ⟨X2, rfl, Z2, O2, D.ex, D.cb, D.ml, T'.vm, _, rfl, S2, Nat.le_refl _, q4.trans hR⟩)
theorem g_callNW (D : Wk p l e R m args below meth c own bytes maxL Z (WI Z EL s) s' T locs cells slots h) (pc' : Nat) {index : Nat} {y : MethodName} {bz : ByteArray} {mL : Nat} {rm : Room} {as' : Array Value} (hEW : EW Z a0 EL) (hy1 : y.name = "<init>") (w1 : (Cond.methodLink own index y).before a0 Z = true) (w2 : (Cond.instanceMethod y).before a0 Z = true) (w3 : (Cond.initialized y.cls).before a0 Z = true) (w4 : (Cond.code y bz mL none).before a0 Z = true) (hy : y.cls ≠ "java/lang/invoke/MethodHandle" ∧ y.cls ≠ "java/lang/invoke/VarHandle")
    (hM : ConW l y bz mL none [] rm Z EL as' h Q rm.cells rm.slots) {b : Addr} (hsz : Ls.size = maxL) (argsL : List Value) (has : (.ref b :: argsL).toArray = as') (hlen : ∀ sig, parseMethodDescriptor y.desc = some sig → argsL.length = sig.parameters.length) {S0 : List Value} (hst : S0 = argsL.reverse ++ .ref b :: S) (W : Nat) (hW : (S.map fun v => v.category).sum ≤ W) (hf : rm.frames + 1 ≤ R.frames) (hlo : W + (mL + 11) + rm.locals ≤ R.locals) (hc : cells + rm.cells ≤ R.cells) (hl : slots + rm.slots ≤ R.slots) (hd : decode bytes pc = .ok (.invokespecial index, 3)) (hp : pc + 3 = pc')
    (hr : ∀ v s'' T' h' L, Q v h' L → (∀ x, x < h.size → Safe Z EL s'.vm h x → Safe Z EL s''.vm h' x) → Wk p l e R m args below meth c own bytes maxL Z (WI Z EL s) s'' T' (locs ++ L) (cells + rm.cells) (slots + rm.slots) h' → Go p e below G (T'.setTop (mkF m pc' Ls (v.toList ++ S)))) : Go p e below G (T.setTop (mkF m pc Ls S0)) := by
  subst hp hst
  obtain ⟨vm0, k0, rfl, q2, q3, q4⟩ := D.iv
  obtain ⟨v, _, ⟨T', L', k', n'⟩, -, X', hS', hg, ⟨L, hQ, l', y', z', hR⟩, st⟩ := D.st.specialBackS D.ex (y := y) hy1 D.ow (mvT D.wm w1) (mvT D.wm w2) (mvT D.wm w4) hy (backOfSH (s := s) (W := W) hM D.wm w4 w3 hf hlo hEW q4.1) (g := mkF m pc Ls (argsL.reverse ++ .ref b :: S)) rfl (by rw [D.ml]; exact hsz) (Steps.refl _) (a := b) (argsL := argsL) (rest := S) hlen rfl (by simpa using hW) (hb D.cb hd) (fun _ _ => ⟨has, D.eq, hc, hl⟩)
  dsimp only at X' l' y' z' st hQ hS' hg hR
  subst l' y' z'
  obtain ⟨X2, S2, Z2, O2⟩ := rebS q2 (n1 := T.heap.size) (by rw [D.eq]; exact q3) X' hS' hg D.wm D.ow
  exact Go.mono (fun t k => st.trans k) (hr v (s.setVm T'.vm) T' T'.heap L hQ (fun x hx Sx => hR.safe hx Sx) ⟨X2, rfl, Z2, O2, D.ex, D.cb, D.ml, T'.vm, _, rfl, S2, Nat.le_refl _, q4.trans hR⟩)
theorem g_callVW (D : Wk p l e R m args below meth c own bytes maxL Z (WI Z EL s) s' T locs cells slots h) (pc' : Nat) {index : Nat} {y z : MethodName} {C : String} {bz : ByteArray} {mL : Nat} {ret' : Option FieldType} {rm : Room} {as' : Array Value} (hEW : EW Z a0 EL) (w1 : (Cond.methodLink own index y).before a0 Z = true) (w2 : (Cond.declares y).before a0 Z = true) (hnf : NotFace s' y) (w6 : (Cond.selects C y z).before a0 Z = true) (w7 : (Cond.instanceMethod z).before a0 Z = true) (w3 : (Cond.initialized z.cls).before a0 Z = true) (w4 : (Cond.code z bz mL ret').before a0 Z = true) (hy : y.cls ≠ "java/lang/invoke/MethodHandle" ∧ y.cls ≠ "java/lang/invoke/VarHandle")
    (hM : ConW l z bz mL ret' [] rm Z EL as' h Q rm.cells rm.slots) {b : Addr} (E : Exa Z h b C) (hsz : Ls.size = maxL) (argsL : List Value) (has : (.ref b :: argsL).toArray = as') (hlen : ∀ sig, parseMethodDescriptor y.desc = some sig → argsL.length = sig.parameters.length) {S0 : List Value} (hst : S0 = argsL.reverse ++ .ref b :: S) (W : Nat) (hW : (S.map fun v => v.category).sum ≤ W) (hf : rm.frames + 1 ≤ R.frames) (hlo : W + (mL + 11) + rm.locals ≤ R.locals) (hc : cells + rm.cells ≤ R.cells) (hl : slots + rm.slots ≤ R.slots) (hd : decode bytes pc = .ok (.invokevirtual index, 3)) (hp : pc + 3 = pc')
    (hr : ∀ v s'' T' h' L, Q v h' L → (∀ x, x < h.size → Safe Z EL s'.vm h x → Safe Z EL s''.vm h' x) → Wk p l e R m args below meth c own bytes maxL Z (WI Z EL s) s'' T' (locs ++ L) (cells + rm.cells) (slots + rm.slots) h' → Go p e below G (T'.setTop (mkF m pc' Ls (v.toList ++ S)))) : Go p e below G (T.setTop (mkF m pc Ls S0)) := by
  subst hp hst
  obtain ⟨cq, kq, qa, qb, qc⟩ := isOf D.wm D.eq E
  obtain ⟨vm0, k0, rfl, q2, q3, q4⟩ := D.iv
  obtain ⟨v, _, ⟨T', L', k', n'⟩, -, X', hS', hg, ⟨L, hQ, l', y', z', hR⟩, st⟩ := D.st.virtualBackS D.ex (y := y) (z := z) D.ow (mvT D.wm w1) (mvT D.wm w2) hnf (mvT D.wm w6) (mvT D.wm w7) hy (backOfSH (s := s) (W := W) hM D.wm w4 w3 hf hlo hEW q4.1) qa qc (g := mkF m pc Ls (argsL.reverse ++ .ref b :: S)) rfl (by rw [D.ml]; exact hsz) (Steps.refl _) (argsL := argsL) (rest := S) hlen rfl (by simpa using hW) (hb D.cb hd) (fun _ _ => ⟨has, D.eq, hc, hl⟩)
  dsimp only at X' l' y' z' st hQ hS' hg hR
  subst l' y' z'
  obtain ⟨X2, S2, Z2, O2⟩ := rebS q2 (n1 := T.heap.size) (by rw [D.eq]; exact q3) X' hS' hg D.wm D.ow
  exact Go.mono (fun t k => st.trans k) (hr v (s.setVm T'.vm) T' T'.heap L hQ (fun x hx Sx => hR.safe hx Sx) ⟨X2, rfl, Z2, O2, D.ex, D.cb, D.ml, T'.vm, _, rfl, S2, Nat.le_refl _, q4.trans hR⟩)
theorem g_ldcS (D : Wk p l e R m args below meth c own bytes maxL Z (WI Z EL s) s' T locs cells slots h) (pc' : Nat) {text : String} {index : Nat} (hEW : EW Z a0 EL) (w : (Cond.stringLink own index text).before a0 Z = true) (wS : ∀ a ∈ Bundle.stringAtoms, a.before a0 Z = true) (hmem : (own, index) ∈ EL) (cs : List Int32) (n : Nat) (ht : (∀ c ∈ text.toList, c.toNat < 256) ∧ text.toList.map (fun c => Value.int (Jvm.Lit.byteI c.toNat.toUInt16)) = (cs.map StrChars.lo8).map Value.int) (hcs : (∀ c ∈ cs, ¬ c < 0 ∧ ¬ (255 : Int32) < c) ∧ cs.length ≤ 4000) (hn : 4 * text.toList.length ≤ n) (hbig : n ≤ 536870912) (hd : decode bytes pc = .ok (.ldc index, 2)) (hc : cells + 2 ≤ R.cells) (hl : slots + (n + 4) ≤ R.slots) (hp : pc + 2 = pc')
    (hr : ∀ s'' T' h' a t kb, Ext h h' → Exa Z h' a "java/lang/String" → Fld Z h' a "java/lang/String" "coder" "B" (.int 0) → Fld Z h' a "java/lang/String" "value" "[B" (.ref t) → Arv Z h' t kb .byte (Int32.ofNat cs.length) ((cs.map StrChars.lo8).map Value.int) (.int 0) → (∀ x, Safe Z EL s''.vm h' x → x ≠ a ∧ x ≠ t) → (∀ x, x < h.size → Safe Z EL s'.vm h x → Safe Z EL s''.vm h' x) → Wk p l e R m args below meth c own bytes maxL Z (WI Z EL s) s'' T' locs (cells + 2) (slots + (n + 4)) h' → Go p e below G (T'.setTop (mkF m pc' Ls (.ref a :: S)))) : Go p e below G (T.setTop (mkF m pc Ls S)) := by
  subst hp
  obtain ⟨vm0, k0, rfl, q2, q3, q4⟩ := D.iv
  have hz : ¬ (Int32.ofNat cs.length) < 0 := by
    have q : (Int32.ofNat cs.length).toInt = cs.length := Int32.toInt_ofNat_small (by omega)
    rw [Int32.lt_iff_toInt_lt, q, show (0 : Int32).toInt = 0 from rfl]; omega
  have hz2 : (Int32.ofNat cs.length).toNatClampNeg = ((cs.map StrChars.lo8).map Value.int).length := by
    have q : (Int32.ofNat cs.length).toInt = cs.length := Int32.toInt_ofNat_small (by omega)
    simp only [Int32.toNatClampNeg, q, List.length_map]; omega
  obtain ⟨a, T', h', k1, b, k, X', e', E', S', hk', Z', O', x1, x2, x3, x4, -, -, hR, -, hsf, st⟩ := ldcCH (s := s) D.st D.ex D.wm D.ow w wS D.eq q2 q3 hEW hmem q4.1 ht hz hz2 (g := mkF m pc Ls S) rfl (hb D.cb hd) hn hbig hc hl
  exact Go.mono st (hr (s.setVm T'.vm) T' h' a b k E' x1 x2 x3 x4 hsf (fun x hx Sx => hR.safe hx Sx) ⟨X', e', Z', O', D.ex, D.cb, D.ml, T'.vm, k1, rfl, S', hk', q4.trans hR⟩)
/-- the same, where the contract speaks of the tables at the end too -/
def WGv (Z : State) (EL : List (String × Nat)) (s : State) (Q : Option Value → Vm → Heap → List Loc → Prop) (ck sk : Nat) : Outcome → State → Prop := fun o U' => ∃ v L, o = .returned v ∧ Q v U'.vm U'.heap L ∧ CHr Z EL s.vm s.heap U'.vm U'.heap ∧ ReturnedEndW s o U' L ck sk
abbrev ConV (l : Launch) (y : MethodName) (bytes : ByteArray) (maxL : Nat) (ret : Option FieldType) (ws : List Jvm.Cond) (rm : Room) (Z : State) (EL : List (String × Nat)) (as' : Array Value) (h0 : Heap) (Q : Option Value → Vm → Heap → List Loc → Prop) (ck sk : Nat) : Prop :=
  MetFree l y (head1 (Jvm.Cond.code y bytes maxL ret :: ws) rm) (fun a U => a = as' ∧ Z.Warmed39 U.vm ∧ U.heap = h0 ∧ CHv Z EL U.vm h0) (fun _ _ _ _ _ => True) (fun _ U o U' => ∃ v L, o = .returned v ∧ Q v U'.vm U'.heap L ∧ CHr Z EL U.vm U.heap U'.vm U'.heap ∧ ReturnedEndW U o U' L ck sk)
theorem enterV {y : MethodName} {ret : Option FieldType} {ws : List Jvm.Cond} {rm : Room} {as' : Array Value} {h0 : Heap} {Qv : Option Value → Vm → Heap → List Loc → Prop} (hpl : plainFor y = true)
    (k : ∀ p e s m below meth c s₁, meth.name = y.name → meth.sig.returnType = ret → meth.locks = false → Wk p l e rm m as' below meth c y.cls bytes maxL Z (WI Z EL s) s s₁ [] 0 0 h0 → Go p e below (WGv Z EL s Qv ck sk) (s₁.setTop (entryFrame m as' maxL))) :
    ConV l y bytes maxL ret ws rm Z EL as' h0 Qv ck sk := by
  refine MetFree.of_bodySF hpl hisR ?_
  intro p e s m args below meth c s₁ Bd hml0 hP hK
  obtain ⟨rfl, hZ, hh, hC⟩ := hP
  have X0 : Stand p l e rm s m _ below meth c s₁ [] 0 0 := Stand.of_body Bd
  exact k p e s m below meth c s₁ (name_of_methodNamed Bd.named Bd.method).1 Bd.returns Bd.notSynchronized ⟨X0, by rw [← hh, Bd.state]; rfl, hZ, findClass_of_methodNamed Bd.named, Bd.exec, Bd.bytes, hml0, s.vm, s.heap.size, (State.setVm_self s).symm, (State.WarmedH.refl s).since _, by rw [hh]; exact Nat.le_refl _, by rw [hh]; exact CHr.refl hC⟩
theorem r_Av (D : Wk p l e R m args below meth c own bytes maxL Z (WI Z EL s) s' T locs cells slots h) (hEW : EW Z a0 EL) {t : FieldType} {w : Value} {Qv : Option Value → Vm → Heap → List Loc → Prop} (hret : meth.sig.returnType = some t) (ht : t.isReference = true) (hw : w.isRef = true) (hlk : meth.locks = false) (hd : decode bytes pc = .ok (.areturn, 1)) (hQ : ∀ vm1, (∀ x, x < h.size → Safe Z EL s'.vm h x → Safe Z EL vm1 h x) → Qv (some w) vm1 h locs) (hc : cells ≤ ck) (hs : slots ≤ sk) : Go p e below (WGv Z EL s Qv ck sk) (T.setTop (mkF m pc Ls (w :: S))) := by
  obtain ⟨vm0, k0, rfl, q2, q3, q4⟩ := D.iv
  obtain ⟨fs, hr, hrun, hended, hW⟩ := D.st.leaveW q2 (by rw [D.eq]; exact q3) (v := some w) (fun h => by rw [hret] at h; cases h) hlk
  have hR := CHv.at D.st D.wm hEW q4.1
  refine ⟨_, _, retOut D.st D.ex hret (by cases t <;> first | (cases ht; done) | rfl) (Or.inr (Or.inr (Or.inr (Or.inr ⟨rfl, ht, hw⟩)))) (hb D.cb hd) hr, hrun, hended, _, _, rfl, ?_, ?_, hW.1, hW.2.1, hW.2.2.1, hW.2.2.2.mono hc hs⟩
  · show Qv (some w) T.vm T.heap locs
    rw [D.eq]; exact hQ _ fun x hx Sx => hR.safe hx Sx
  · show CHr Z EL s.vm s.heap T.vm T.heap
    rw [D.eq]; exact q4.trans hR
theorem backOfSHv {vm0 : Vm} {y : MethodName} {ret : Option FieldType} {rm : Room} {len W : Nat} {as' : Array Value} {Qv : Option Value → Vm → Heap → List Loc → Prop} (hM : ConV l y bytes maxL ret [] rm Z EL as' h Qv rm.cells rm.slots)
    (hZ : Z.Warmed39 vm0) (wc : (Cond.code y bytes maxL ret).before a0 Z = true) (wz : (Cond.initialized y.cls).before a0 Z = true) (hf : rm.frames + 1 ≤ R.frames) (hl : W + (maxL + 11) + rm.locals ≤ R.locals) (hEL : EW Z a0 EL) (H : CHv Z EL vm0 h) :
    BackS l R p e below (s.setVm vm0) args y len W (fun A a => a = as' ∧ A.U.heap = h ∧ A.cells + rm.cells ≤ R.cells ∧ A.slots + rm.slots ≤ R.slots)
      (fun A _ v B => ∃ L, Qv v B.U.vm B.U.heap L ∧ B.locs = A.locs ++ L ∧ B.cells = A.cells + rm.cells ∧ B.slots = A.slots + rm.slots ∧ CHr Z EL vm0 h B.U.vm B.U.heap) :=
  BackS.of_freeW (bytes := bytes) (maxL := maxL) (ret := ret) (E := fun _ first o t L k n => k = rm.cells ∧ n = rm.slots ∧ (∃ v, o = .returned v ∧ Qv v t.vm t.heap L) ∧ CHr Z EL first.vm first.heap t.vm t.heap) hM hf hl
    (fun m meth c A a Y hp => have hU : Z.Warmed39 A.U.vm := wtrans (s := s.setVm vm0) hZ Y.warmed
      ⟨by show (Cond.and _ .tt).before a A.U = true; rw [Cond.before_and, mv hU wc]; rfl, mv hU wc, mv hU wz, hp.2.2.1, hp.2.2.2⟩)
    (fun m meth c A a g mk Y hp => ⟨hp.1, wtrans (s := s.setVm vm0) hZ Y.warmed, hp.2.1, (CHv.at Y hZ hEL H).1⟩) (fun _ _ _ _ _ _ _ _ _ => trivial)
    (fun _ _ _ _ ⟨v, L, h1, h2, h3, h4⟩ => ⟨L, _, _, h4, rfl, rfl, ⟨v, h1, h2⟩, h3⟩)
    (fun m meth c A a g mk v t L k n Y hp _ _ ⟨e1, e2, ⟨v', e3, e4⟩, e5⟩ => by
      cases e3; subst e1 e2
      refine ⟨L, e4, rfl, rfl, rfl, (CHv.at Y hZ hEL H).trans ?_⟩
      rw [← hp.2.1]; exact e5)
theorem g_callSV (D : Wk p l e R m args below meth c own bytes maxL Z (WI Z EL s) s' T locs cells slots h) (pc' : Nat) {index : Nat} {y : MethodName} {bz : ByteArray} {mL : Nat} {ret' : Option FieldType} {rm : Room} {as' : Array Value} {Qv : Option Value → Vm → Heap → List Loc → Prop} (hEW : EW Z a0 EL) (w1 : (Cond.methodLink own index y).before a0 Z = true) (w2 : (Cond.static y).before a0 Z = true) (w3 : (Cond.initialized y.cls).before a0 Z = true) (w4 : (Cond.code y bz mL ret').before a0 Z = true) (hy : y.cls ≠ "java/lang/invoke/MethodHandle" ∧ y.cls ≠ "java/lang/invoke/VarHandle")
    (hM : ConV l y bz mL ret' [] rm Z EL as' h Qv rm.cells rm.slots) (hsz : Ls.size = maxL) (argsL : List Value) (has : argsL.toArray = as') (hlen : ∀ sig, parseMethodDescriptor y.desc = some sig → argsL.length = sig.parameters.length) {S0 : List Value} (hst : S0 = argsL.reverse ++ S) (W : Nat) (hW : (S.map fun v => v.category).sum ≤ W) (hf : rm.frames + 1 ≤ R.frames) (hlo : W + (mL + 11) + rm.locals ≤ R.locals) (hc : cells + rm.cells ≤ R.cells) (hl : slots + rm.slots ≤ R.slots) (hd : decode bytes pc = .ok (.invokestatic index, 3)) (hp : pc + 3 = pc')
    (hr : ∀ v s'' T' h' L, Qv v s''.vm h' L → (∀ x, x < h.size → Safe Z EL s'.vm h x → Safe Z EL s''.vm h' x) → Wk p l e R m args below meth c own bytes maxL Z (WI Z EL s) s'' T' (locs ++ L) (cells + rm.cells) (slots + rm.slots) h' → Go p e below G (T'.setTop (mkF m pc' Ls (v.toList ++ S)))) : Go p e below G (T.setTop (mkF m pc Ls S0)) := by
  subst hp hst
  obtain ⟨vm0, k0, rfl, q2, q3, q4⟩ := D.iv
  obtain ⟨v, _, ⟨T', L', k', n'⟩, -, X', hS', hg, ⟨L, hQ, l', y', z', hR⟩, st⟩ := callSS D.st D.ex D.ow (mvT D.wm w1) (mvT D.wm w2) (mvT D.wm w3) (mvT D.wm w4) hy (backOfSHv (s := s) (W := W) hM D.wm w4 w3 hf hlo hEW q4.1) (g := mkF m pc Ls (argsL.reverse ++ S)) rfl (by rw [D.ml]; exact hsz) (argsL := argsL) (rest := S) hlen rfl (by simpa using hW) (hb D.cb hd) (fun _ _ => ⟨has, D.eq, hc, hl⟩)
  dsimp only at X' l' y' z' st hQ hS' hg hR
  subst l' y' z'
  obtain ⟨X2, S2, Z2, O2⟩ := rebS q2 (n1 := T.heap.size) (by rw [D.eq]; exact q3) X' hS' hg D.wm D.ow
  exact Go.mono (fun t k => st.trans k) (hr v (s.setVm T'.vm) T' T'.heap L hQ (fun x hx Sx => hR.safe hx Sx) ⟨X2, rfl, Z2, O2, D.ex, D.cb, D.ml, T'.vm, _, rfl, S2, Nat.le_refl _, q4.trans hR⟩)
end Wide
theorem safe_null {Z : State} {EL : List (String × Nat)} {vm : Vm} {h : Heap} {x : Addr} (hal : Z.vm.Alike vm) (E : Exa Z h x "java/lang/String") (V : Fld Z h x "java/lang/String" "value" "[B" .null) : Safe Z EL vm h x := fun B => by
  obtain ⟨p, -, u, a, -, q, -, F, rfl | rfl⟩ := B
  · obtain ⟨cell, cf, k, i, f, h1, h2, -, -, -, -, h7⟩ := V
    cases (show h[q.sa]? = some q.sC from F.ha).symm.trans h1
    obtain ⟨cS, ⟨⟨-, -, -, ⟨c1, k1, i1, f1, -⟩, -, -, -, v1, -⟩, -⟩, -⟩ := F
    obtain ⟨k3, e3, -⟩ := State.fieldFound?_setVm (s := Z) hal h2
    have e4 := (show (Wst Z vm h).fieldFound? _ _ _ = _ from e3).symm.trans f1
    simp only [Option.some.injEq, Prod.mk.injEq] at e4
    rw [e4.2.2.2, v1] at h7
    cases h7
  · obtain ⟨cell, k, e1, e2, e3, -, -⟩ := E
    cases (show h[q.sd]? = some q.SA from F.hd).symm.trans e1
    obtain ⟨cS, -, -, f, -⟩ := F
    have f' : vm.findClass "[B" = some q.SA.cls := f
    rw [hal.findClass] at f'
    obtain ⟨k1, q1, q2⟩ := Vm.findClass_spec f'
    obtain ⟨k2, q3, q4⟩ := Vm.findClass_spec e2
    cases q1.symm.trans q3
    exact absurd (q2.symm.trans q4) (by decide)
theorem Keep.toExt {h h' : Heap} (K : Keep h h' []) : Ext h h' := ⟨K.1, fun a c q => K.2.1 a c q nin0⟩
theorem Ext.trans' {h h1 h2 : Heap} (E : Ext h h1) (F : Ext h1 h2) : Ext h h2 := ⟨Nat.le_trans E.1 F.1, fun a c q => F.2 a c (E.2 a c q)⟩
/-- a char below 256 -/
abbrev B8 (c : Int32) : Prop := ¬ c < 0 ∧ ¬ (255 : Int32) < c
theorem b8_nil : ∀ c ∈ ([] : List Int32), B8 c := fun _ q => nomatch q
theorem b8_cons {a : Int32} {L : List Int32} (h : B8 a) (r : ∀ c ∈ L, B8 c) : ∀ c ∈ a :: L, B8 c := fun c q => (List.mem_cons.mp q).elim (fun e => e ▸ h) (r c)
theorem i2c_ch {c : Int32} (h0 : ¬ c < 0) (h1 : ¬ (65535 : Int32) < c) : c.toUInt32.toUInt16.toUInt32.toInt32 = c := by
  rw [Int32.lt_iff_toInt_lt, show (0 : Int32).toInt = 0 from rfl] at h0
  rw [Int32.lt_iff_toInt_lt, show (65535 : Int32).toInt = 65535 from rfl] at h1
  have e : c.toInt = c.toBitVec.toNat := by
    have q : c.toInt = c.toBitVec.toInt := rfl
    have lt := c.toBitVec.isLt
    rw [q, BitVec.toInt_eq_toNat_cond] at h0
    rw [q, BitVec.toInt_eq_toNat_cond]
    by_cases g : 2 * c.toBitVec.toNat < 2 ^ 32
    · rw [if_pos g]
    · rw [if_neg g] at h0; omega
  apply Int32.toBitVec_inj.mp
  apply BitVec.eq_of_toNat_eq
  show (c.toUInt32.toUInt16.toUInt32).toBitVec.toNat = _
  have q : (c.toUInt32.toUInt16.toUInt32).toNat = c.toUInt32.toNat % 65536 := by simp
  have q2 : c.toUInt32.toNat = c.toBitVec.toNat := rfl
  show (c.toUInt32.toUInt16.toUInt32).toNat = _
  rw [q, q2]; omega
theorem nar_c {c : Int32} (h : B8 c) : nar .char c = c := i2c_ch h.1 (fun q => h.2 (Int32.lt_trans (by decide) q))
theorem b8_and (x : Int32) : B8 (x &&& (255 : Int32)) := by
  have h : (x &&& 255).toBitVec.toNat < 256 := by
    simp only [Int32.toBitVec_and, BitVec.toNat_and]
    exact Nat.lt_succ_of_le Nat.and_le_right
  have e : (x &&& 255).toInt = (x &&& 255).toBitVec.toNat := by
    show (x &&& 255).toBitVec.toInt = _
    rw [BitVec.toInt_eq_toNat_cond, if_pos (by omega)]
  show ¬ (x &&& 255) < 0 ∧ ¬ (255 : Int32) < (x &&& 255)
  rw [Int32.lt_iff_toInt_lt, Int32.lt_iff_toInt_lt, e, show (0 : Int32).toInt = 0 from rfl, show (255 : Int32).toInt = 255 from rfl]
  omega
theorem and_le (x : Int32) {k : Int32} {K : Nat} (hk : k.toBitVec.toNat = K) (hK : K < 2147483648) : 0 ≤ (x &&& k).toInt ∧ (x &&& k).toInt ≤ K := by
  have h : (x &&& k).toBitVec.toNat ≤ K := by
    simp only [Int32.toBitVec_and, BitVec.toNat_and]
    rw [← hk]; exact Nat.and_le_right
  have e : (x &&& k).toInt = (x &&& k).toBitVec.toNat := by
    show (x &&& k).toBitVec.toInt = _
    rw [BitVec.toInt_eq_toNat_cond, if_pos (by omega)]
  rw [e]; omega
theorem i2c_b8 {c : Int32} (h : B8 c) : c.toUInt32.toUInt16.toUInt32.toInt32 = c := i2c_ch h.1 (fun q => h.2 (Int32.lt_trans (by decide) q))
theorem b8_i2c (x : Int32) : B8 ((x &&& (255 : Int32)).toUInt32.toUInt16.toUInt32.toInt32) := by rw [i2c_b8 (b8_and x)]; exact b8_and x
theorem own_r1 : some (Value.int (nar .boolean (1 : Int32))) = some (Value.int 1) := by decide
theorem own_nar1 : nar .boolean (1 : Int32) = 1 := by decide
theorem own_nar0 : nar .boolean (0 : Int32) = 0 := by decide
/-- a boolean that says whether P -/
def own_B (P : Prop) (v : Option Value) : Prop := ∃ r : Int32, v = some (.int r) ∧ ((r = 1 ∧ P) ∨ (r = 0 ∧ ¬ P))
def own_R (P : Prop) (r : Int32) : Prop := (r = 1 ∧ P) ∨ (r = 0 ∧ ¬ P)
theorem own_R.same {P Q : Prop} {r t : Int32} (h : own_R P r) (k : own_R Q t) (e : P ↔ Q) : r = t := by
  rcases h with ⟨rfl, p⟩ | ⟨rfl, p⟩ <;> rcases k with ⟨rfl, q⟩ | ⟨rfl, q⟩
  · rfl
  · exact absurd (e.mp p) q
  · exact absurd (e.mpr q) p
  · rfl
theorem own_R.yes {P : Prop} {r : Int32} (h : own_R P r) (p : P) : r = 1 := by rcases h with ⟨h, -⟩ | ⟨-, n⟩; exact h; exact absurd p n
theorem own_R.no {P : Prop} {r : Int32} (h : own_R P r) (p : ¬ P) : r = 0 := by rcases h with ⟨-, n⟩ | ⟨h, -⟩; exact absurd n p; exact h
theorem own_ninst {Z : State} {a0 : Array Value} {K : String} {n : Nat} (wS : (Cond.superclass "java/lang/String" "java/lang/Object").before a0 Z = true) (wO : (Cond.noSuperclass "java/lang/Object").before a0 Z = true) (wi : (Cond.instantiable K n).before a0 Z = true) (h1 : "java/lang/String" ≠ K) (h2 : "java/lang/Object" ≠ K) : ∃ c t, Z.vm.findClass "java/lang/String" = some c ∧ Z.vm.findClass K = some t ∧ Z.vm.assignable c t = false := by
  obtain ⟨t, kt, g1, g2, g3, g4, -⟩ := Cond.instantiable_spec wi
  obtain ⟨c, h0⟩ := found_sup wS
  obtain ⟨o, k, ko, e1, e2, e3, e4, e5, -, e7⟩ := Cond.superclass_spec h0 wS
  obtain ⟨o', ko', f1, f2, f3, -⟩ := Cond.noSuperclass_spec wO
  cases e1.symm.trans f1
  have n1 := ids_ne h0 g1 h1
  have n2 := ids_ne f1 g1 h2
  have g6 : kt.isInterface = false := by simp only [Bool.or_eq_false_iff] at g4; exact g4.1
  have q : ∀ fuel, Z.vm.isSubclassAux fuel c t = false := fun fuel => by
    cases fuel with
    | zero => rfl
    | succ f =>
      cases f with
      | zero => simp [Vm.isSubclassAux, n1, e2, e4]
      | succ g => simp [Vm.isSubclassAux, n1, n2, e2, e4, f2, f3]
  refine ⟨c, t, h0, g1, ?_⟩
  show Z.vm.assignableAux (255 + 1) c t = false
  simp [Vm.assignableAux, n1, e2, g2, e5, g3, g6, Vm.isSubclass, q]
theorem wsa : ∀ d ∈ Bundle.stringAtoms, d ∈ tables_1 := by decide +kernel
abbrev C16 (c : Int32) : Prop := ¬ c < 0 ∧ ¬ (65535 : Int32) < c
theorem c16_nil : ∀ c ∈ ([] : List Int32), C16 c := fun _ q => nomatch q
theorem c16_cons {a : Int32} {L : List Int32} (h : C16 a) (r : ∀ c ∈ L, C16 c) : ∀ c ∈ a :: L, C16 c := fun c q => (List.mem_cons.mp q).elim (fun e => e ▸ h) (r c)
theorem u8_nil : ∀ c ∈ ([] : List Int32), ¬ (255 : Int32) < c := fun _ q => nomatch q
theorem u8_cons {a : Int32} {L : List Int32} (h : ¬ (255 : Int32) < a) (r : ∀ c ∈ L, ¬ (255 : Int32) < c) : ∀ c ∈ a :: L, ¬ (255 : Int32) < c := fun c q => (List.mem_cons.mp q).elim (fun e => e ▸ h) (r c)
/-- the object at a is a String of the chars cs, by the coder that the JDK takes -/
def TS (Z : State) (h : Heap) (a : Addr) (cs : List Int32) : Prop := ∃ (t : Addr) (kb : ClassId) (cd N2 : Int32) (vs : List Value), Exa Z h a "java/lang/String" ∧ Fld Z h a "java/lang/String" "coder" "B" (.int cd) ∧ Fld Z h a "java/lang/String" "value" "[B" (.ref t) ∧ Arv Z h t kb .byte N2 vs (.int 0) ∧ StrChars.Road.CodA cs cd N2 vs ∧ (∀ c ∈ cs, C16 c) ∧ cs.length ≤ 4000
theorem TS.ext {Z : State} {h h' : Heap} {a : Addr} {cs : List Int32} (F : TS Z h a cs) (E : Ext h h') : TS Z h' a cs := by
  obtain ⟨t, kb, cd, N2, vs, f1, f2, f3, f4, f5⟩ := F; exact ⟨t, kb, cd, N2, vs, f1.ext E, f2.ext E, f3.ext E, f4.ext E, f5⟩
theorem TS.exa {Z : State} {h : Heap} {a : Addr} {cs : List Int32} (F : TS Z h a cs) : Exa Z h a "java/lang/String" := by obtain ⟨t, kb, cd, N2, vs, f1, -⟩ := F; exact f1
theorem LS.ts {Z : State} {h : Heap} {a : Addr} {cs : List Int32} (F : LS Z h a cs) : TS Z h a cs := by
  obtain ⟨t, kb, f1, f2, f3, f4, f5, f6⟩ := F
  exact ⟨t, kb, 0, _, _, f1, f2, f3, f4, StrChars.Road.codOf rfl (fun c hc => (f5 c hc).2), up255 f5, f6⟩
theorem nb_b (c : Int32) : nar .byte (c.toInt8.toInt32) = StrChars.lo8 c := by simp [nar, StrChars.lo8]
theorem nb_lo (c : Int32) : nar .byte ((c >>> ((0 : Int32) &&& 31)).toInt8.toInt32) = StrChars.lo8 c := by rw [StrChars.shr0]; exact nb_b c
theorem nb_hi (c : Int32) : nar .byte ((c >>> ((8 : Int32) &&& 31)).toInt8.toInt32) = StrChars.hi8 c := nb_b _
theorem get_says {c : Int32} (h : C16 c) : nar .char ((((StrChars.lo8 c &&& (255 : Int32)) <<< ((0 : Int32) &&& 31)) ||| ((StrChars.hi8 c &&& (255 : Int32)) <<< ((8 : Int32) &&& 31))).toUInt32.toUInt16.toUInt32.toInt32) = c := by
  show nar .char (StrChars.pairCh (StrChars.lo8 c) (StrChars.hi8 c)) = c
  rw [StrChars.pair_says h.1 h.2]; exact i2c_ch h.1 h.2
theorem nar16 {c : Int32} (h : C16 c) : nar .char c = c := i2c_ch h.1 h.2
theorem c16_i2c (x : Int32) : C16 (x.toUInt32.toUInt16.toUInt32.toInt32) := by
  have h : (x.toUInt32.toUInt16.toUInt32.toInt32).toBitVec.toNat < 65536 := by
    show (x.toUInt32.toUInt16.toUInt32).toNat < 65536
    have q : (x.toUInt32.toUInt16.toUInt32).toNat = x.toUInt32.toNat % 65536 := by simp
    rw [q]; omega
  generalize x.toUInt32.toUInt16.toUInt32.toInt32 = y at h
  have e : y.toInt = y.toBitVec.toNat := by
    show y.toBitVec.toInt = _
    rw [BitVec.toInt_eq_toNat_cond, if_pos (by omega)]
  show ¬ y < 0 ∧ ¬ (65535 : Int32) < y
  rw [Int32.lt_iff_toInt_lt, Int32.lt_iff_toInt_lt, e, show (0 : Int32).toInt = 0 from rfl, show (65535 : Int32).toInt = 65535 from rfl]
  omega
theorem c16_nar (x : Int32) : C16 (nar .char x) := c16_i2c x
theorem ref_cases {v : Value} (h : v.isRef = true) : (∃ a, v = .ref a) ∨ v = .null := by cases v <;> first | (exact Or.inl ⟨_, rfl⟩) | (exact Or.inr rfl) | cases h
theorem lch_says {c : Int32} (h : C16 c) (u : ¬ (255 : Int32) < c) : nar .char ((StrChars.lo8 c &&& (255 : Int32)).toUInt32.toUInt16.toUInt32.toInt32) = c := by
  show nar .char (StrChars.chr8 (StrChars.lo8 c)) = c
  rw [StrChars.chr8_lo8 h.1 u]; exact nar16 h
abbrev tSA (Z : State) : Prop := Sta Z Z.heap "java/lang/StringUTF16" "$assertionsDisabled" "Z" (.int (1 : Int32))
abbrev tSH (Z : State) : Prop := Sta Z Z.heap "java/lang/StringUTF16" "HI_BYTE_SHIFT" "I" (.int (0 : Int32))
abbrev tSL (Z : State) : Prop := Sta Z Z.heap "java/lang/StringUTF16" "LO_BYTE_SHIFT" "I" (.int (8 : Int32))
abbrev tCS (Z : State) (zc : Int32) : Prop := Sta Z Z.heap "java/lang/String" "COMPACT_STRINGS" "Z" (.int zc)
abbrev tSF (Z : State) (fm : Value) : Prop := Sta Z Z.heap "jdk/internal/util/Preconditions" "SIOOBE_FORMATTER" "Ljava/util/function/BiFunction;" fm
abbrev tHW (Z : State) (a0 : Array Value) : Prop := ∀ d ∈ tables_1, d.before a0 Z = true
set_option maxRecDepth 65536
set_option maxHeartbeats 40000000
theorem wlen : ∀ d ∈ StrChars.Road.wordsLen, d ∈ tables_1 := by decide +kernel
theorem TS.lenB {p : Program} {l : Launch} {e : Env} {R : Room} {m : MethodId} {args : Array Value} {below : List Frame} {meth : Method} {c : Code} {own : String} {bytes : ByteArray} {maxL : Nat} {Z : State} {I : State → Heap → Prop} {s' T : State} {locs : List Loc} {cells slots : Nat} {h h1 : Heap} {a0 : Array Value} {x : Addr} {cs : List Int32} {z : Int32} (W : Nat) {len : Nat}
    (D : Wk p l e R m args below meth c own bytes maxL Z I s' T locs cells slots h1) (hw : tHW Z a0) (A : TS Z h x cs) (S : Sta Z h "java/lang/String" "COMPACT_STRINGS" "Z" (.int z)) (hz : ¬ z = 0) (hf : 2 ≤ R.frames) (hl : W + 25 ≤ R.locals) :
    Back l R p e below s' args (⟨"java/lang/String", "length", "()I"⟩ : MethodName) len W (fun P a => a = #[.ref x] ∧ P.U.heap = h ∧ P.cells + 0 ≤ R.cells ∧ P.slots + 0 ≤ R.slots)
      (fun P _ v B => ∃ L, (v = some (.int (Int32.ofNat cs.length)) ∧ L = [] ∧ B.U.heap = h) ∧ B.locs = P.locs ++ L ∧ B.cells = P.cells + 0 ∧ B.slots = P.slots + 0) := by
  obtain ⟨t, kb, cd, N2, vs, f1, f2, f3, f4, f5, f6, f7⟩ := A
  exact StrChars.Road.lenW D.wm (fun d hd => hw d (wlen d hd)) (kI := 4) (hw _ w_7) f1 f3 f2 f4 f5 f6 S hz f7 hf hl
def own_cls (k : Int32) : Fin 3 := if k < (48 : Int32) then (if k = (46 : Int32) then 1 else 2) else if (57 : Int32) < k then 2 else 0
theorem cls_p {k : Int32} (h : k < (48 : Int32)) (q : k = (46 : Int32)) : own_cls k = 1 := by simp [own_cls, h, q]
theorem cls_l {k : Int32} (h : k < (48 : Int32)) (q : ¬ k = (46 : Int32)) : own_cls k = 2 := by simp [own_cls, h, q]
theorem cls_g {k : Int32} (h : ¬ k < (48 : Int32)) (q : (57 : Int32) < k) : own_cls k = 2 := by simp [own_cls, h, q]
theorem cls_d {k : Int32} (h : ¬ k < (48 : Int32)) (q : ¬ (57 : Int32) < k) : own_cls k = 0 := by simp [own_cls, h, q]
theorem cls_no {k : Int32} (q : (57 : Int32) < k) (e : k = (46 : Int32)) : False := by subst e; exact absurd q (by decide)
def own_kd (k : Fin 3) : Int32 := if k = 0 then 1 else 0
def own_kp (k : Fin 3) : Int32 := if k = 1 then 1 else 0
def own_ko (k : Fin 3) : Int32 := if k = 2 then 1 else 0
def own_in (i f n : Int32) : Int32 := if i < f then 0 else if i < n then 1 else 0
def own_g (i f n v : Int32) : Int32 := if own_in i f n = 0 then 0 else v
def own_run : List (Fin 3) → Int32 → Int32 → Int32
  | [], d, _ => d
  | k :: ks, d, q => if k = 0 then own_run ks 1 q else if k = 1 ∧ q = 0 then own_run ks d 1 else 0
def own_sg (k : Int32) : Prop := k = (43 : Int32) ∨ k = (45 : Int32)
instance (k : Int32) : Decidable (own_sg k) := by unfold own_sg; infer_instance
theorem own_04 {l : Int32} (h : 0 ≤ l.toInt ∧ l.toInt ≤ 4) : l = 0 ∨ l = 1 ∨ l = 2 ∨ l = 3 ∨ l = 4 := by
  have e : ∀ k : Int32, l.toInt = k.toInt → l = k := fun k q => Int32.toInt_inj.mp q
  have : l.toInt = 0 ∨ l.toInt = 1 ∨ l.toInt = 2 ∨ l.toInt = 3 ∨ l.toInt = 4 := by omega
  rcases this with q | q | q | q | q
  · exact Or.inl (e 0 q)
  · exact Or.inr (Or.inl (e 1 q))
  · exact Or.inr (Or.inr (Or.inl (e 2 q)))
  · exact Or.inr (Or.inr (Or.inr (Or.inl (e 3 q))))
  · exact Or.inr (Or.inr (Or.inr (Or.inr (e 4 q))))
theorem own_rem5 (x : Int32) : 0 ≤ ((x &&& (2147483647 : Int32)) % (5 : Int32)).toInt ∧ ((x &&& (2147483647 : Int32)) % (5 : Int32)).toInt ≤ 4 := by
  have h := and_le x (k := 2147483647) (K := 2147483647) (by decide) (by decide)
  have q := (c_irem (x &&& 2147483647) 5 5 (by decide)).1 h.1
  rw [q]; omega
theorem own_kd1 {k : Fin 3} (h : ¬ own_kd k = 0) : k = 0 := by revert h; revert k; decide
theorem own_kd0 {k : Fin 3} (h : own_kd k = 0) : k ≠ 0 := by revert h; revert k; decide
theorem own_46 {k : Int32} (h : k = (46 : Int32)) : own_cls k = 1 := by subst h; decide
theorem own_n46 {k : Int32} (h : ¬ k = (46 : Int32)) : own_cls k ≠ 1 := by unfold own_cls; split <;> (try split) <;> simp_all
theorem own_f3 {k : Fin 3} (h : k ≠ 0) (q : k ≠ 1) : k = 2 := by revert h q; revert k; decide
theorem own_kp0 {k : Fin 3} (h : k ≠ 1) : own_kp k = 0 := by revert h; revert k; decide
theorem own_ko0 {k : Fin 3} (h : k ≠ 2) : own_ko k = 0 := by revert h; revert k; decide
theorem own_f_0_0 : ∀ (K0 K1 K2 K3 : Fin 3), own_run [] 0 0 = if (((((own_g (0 : Int32) (0 : Int32) (0 : Int32) (own_ko K0)) + (own_g (1 : Int32) (0 : Int32) (0 : Int32) (own_ko K1))) + (own_g (2 : Int32) (0 : Int32) (0 : Int32) (own_ko K2))) + (own_g (3 : Int32) (0 : Int32) (0 : Int32) (own_ko K3))) = (0 : Int32) ∧ ¬ (1 : Int32) < ((((own_g (0 : Int32) (0 : Int32) (0 : Int32) (own_kp K0)) + (own_g (1 : Int32) (0 : Int32) (0 : Int32) (own_kp K1))) + (own_g (2 : Int32) (0 : Int32) (0 : Int32) (own_kp K2))) + (own_g (3 : Int32) (0 : Int32) (0 : Int32) (own_kp K3))) ∧ ¬ ((((own_g (0 : Int32) (0 : Int32) (0 : Int32) (own_kd K0)) + (own_g (1 : Int32) (0 : Int32) (0 : Int32) (own_kd K1))) + (own_g (2 : Int32) (0 : Int32) (0 : Int32) (own_kd K2))) + (own_g (3 : Int32) (0 : Int32) (0 : Int32) (own_kd K3))) < (1 : Int32)) then 1 else 0 := by decide +kernel
theorem own_fin_0 {c0 c1 c2 c3 fr ex OO PP DD : Int32} (hfr : own_R (¬ (0 : Int32) < (1 : Int32) ∧ own_sg c0) fr) (hD : ((((own_g (0 : Int32) fr (0 : Int32) (own_kd (own_cls c0))) + (own_g (1 : Int32) fr (0 : Int32) (own_kd (own_cls c1)))) + (own_g (2 : Int32) fr (0 : Int32) (own_kd (own_cls c2)))) + (own_g (3 : Int32) fr (0 : Int32) (own_kd (own_cls c3)))) = DD) (hP : ((((own_g (0 : Int32) fr (0 : Int32) (own_kp (own_cls c0))) + (own_g (1 : Int32) fr (0 : Int32) (own_kp (own_cls c1)))) + (own_g (2 : Int32) fr (0 : Int32) (own_kp (own_cls c2)))) + (own_g (3 : Int32) fr (0 : Int32) (own_kp (own_cls c3)))) = PP) (hO : ((((own_g (0 : Int32) fr (0 : Int32) (own_ko (own_cls c0))) + (own_g (1 : Int32) fr (0 : Int32) (own_ko (own_cls c1)))) + (own_g (2 : Int32) fr (0 : Int32) (own_ko (own_cls c2)))) + (own_g (3 : Int32) fr (0 : Int32) (own_ko (own_cls c3)))) = OO) (hx : own_R (OO = (0 : Int32) ∧ ¬ (1 : Int32) < PP ∧ ¬ DD < (1 : Int32)) ex) : (own_run [] 0 0) = ex := by
  have e : ex = if (OO = (0 : Int32) ∧ ¬ (1 : Int32) < PP ∧ ¬ DD < (1 : Int32)) then 1 else 0 := by rcases hx with ⟨rfl, q⟩ | ⟨rfl, q⟩; rw [if_pos q]; rw [if_neg q]
  subst hD hP hO
  rw [e]
  obtain rfl : fr = 0 := hfr.elim (fun q => absurd (by decide) q.2.1) (fun q => q.1)
  exact own_f_0_0 _ _ _ _
theorem own_f_1_0 : ∀ (K0 K1 K2 K3 : Fin 3), own_run [K0] 0 0 = if (((((own_g (0 : Int32) (0 : Int32) (1 : Int32) (own_ko K0)) + (own_g (1 : Int32) (0 : Int32) (1 : Int32) (own_ko K1))) + (own_g (2 : Int32) (0 : Int32) (1 : Int32) (own_ko K2))) + (own_g (3 : Int32) (0 : Int32) (1 : Int32) (own_ko K3))) = (0 : Int32) ∧ ¬ (1 : Int32) < ((((own_g (0 : Int32) (0 : Int32) (1 : Int32) (own_kp K0)) + (own_g (1 : Int32) (0 : Int32) (1 : Int32) (own_kp K1))) + (own_g (2 : Int32) (0 : Int32) (1 : Int32) (own_kp K2))) + (own_g (3 : Int32) (0 : Int32) (1 : Int32) (own_kp K3))) ∧ ¬ ((((own_g (0 : Int32) (0 : Int32) (1 : Int32) (own_kd K0)) + (own_g (1 : Int32) (0 : Int32) (1 : Int32) (own_kd K1))) + (own_g (2 : Int32) (0 : Int32) (1 : Int32) (own_kd K2))) + (own_g (3 : Int32) (0 : Int32) (1 : Int32) (own_kd K3))) < (1 : Int32)) then 1 else 0 := by decide +kernel
theorem own_f_1_1 : ∀ (K0 K1 K2 K3 : Fin 3), own_run [] 0 0 = if (((((own_g (0 : Int32) (1 : Int32) (1 : Int32) (own_ko K0)) + (own_g (1 : Int32) (1 : Int32) (1 : Int32) (own_ko K1))) + (own_g (2 : Int32) (1 : Int32) (1 : Int32) (own_ko K2))) + (own_g (3 : Int32) (1 : Int32) (1 : Int32) (own_ko K3))) = (0 : Int32) ∧ ¬ (1 : Int32) < ((((own_g (0 : Int32) (1 : Int32) (1 : Int32) (own_kp K0)) + (own_g (1 : Int32) (1 : Int32) (1 : Int32) (own_kp K1))) + (own_g (2 : Int32) (1 : Int32) (1 : Int32) (own_kp K2))) + (own_g (3 : Int32) (1 : Int32) (1 : Int32) (own_kp K3))) ∧ ¬ ((((own_g (0 : Int32) (1 : Int32) (1 : Int32) (own_kd K0)) + (own_g (1 : Int32) (1 : Int32) (1 : Int32) (own_kd K1))) + (own_g (2 : Int32) (1 : Int32) (1 : Int32) (own_kd K2))) + (own_g (3 : Int32) (1 : Int32) (1 : Int32) (own_kd K3))) < (1 : Int32)) then 1 else 0 := by decide +kernel
theorem own_fin_1 {c0 c1 c2 c3 fr ex OO PP DD : Int32} (hfr : own_R (¬ (1 : Int32) < (1 : Int32) ∧ own_sg c0) fr) (hD : ((((own_g (0 : Int32) fr (1 : Int32) (own_kd (own_cls c0))) + (own_g (1 : Int32) fr (1 : Int32) (own_kd (own_cls c1)))) + (own_g (2 : Int32) fr (1 : Int32) (own_kd (own_cls c2)))) + (own_g (3 : Int32) fr (1 : Int32) (own_kd (own_cls c3)))) = DD) (hP : ((((own_g (0 : Int32) fr (1 : Int32) (own_kp (own_cls c0))) + (own_g (1 : Int32) fr (1 : Int32) (own_kp (own_cls c1)))) + (own_g (2 : Int32) fr (1 : Int32) (own_kp (own_cls c2)))) + (own_g (3 : Int32) fr (1 : Int32) (own_kp (own_cls c3)))) = PP) (hO : ((((own_g (0 : Int32) fr (1 : Int32) (own_ko (own_cls c0))) + (own_g (1 : Int32) fr (1 : Int32) (own_ko (own_cls c1)))) + (own_g (2 : Int32) fr (1 : Int32) (own_ko (own_cls c2)))) + (own_g (3 : Int32) fr (1 : Int32) (own_ko (own_cls c3)))) = OO) (hx : own_R (OO = (0 : Int32) ∧ ¬ (1 : Int32) < PP ∧ ¬ DD < (1 : Int32)) ex) : (if own_sg c0 then (own_run [] 0 0) else (own_run [own_cls c0] 0 0)) = ex := by
  have e : ex = if (OO = (0 : Int32) ∧ ¬ (1 : Int32) < PP ∧ ¬ DD < (1 : Int32)) then 1 else 0 := by rcases hx with ⟨rfl, q⟩ | ⟨rfl, q⟩; rw [if_pos q]; rw [if_neg q]
  subst hD hP hO
  rw [e]
  rcases hfr with ⟨rfl, q⟩ | ⟨rfl, q⟩
  · rw [if_pos q.2]; exact own_f_1_1 _ _ _ _
  · rw [if_neg fun z => q ⟨by decide, z⟩]; exact own_f_1_0 _ _ _ _
theorem own_f_2_0 : ∀ (K0 K1 K2 K3 : Fin 3), own_run [K0, K1] 0 0 = if (((((own_g (0 : Int32) (0 : Int32) (2 : Int32) (own_ko K0)) + (own_g (1 : Int32) (0 : Int32) (2 : Int32) (own_ko K1))) + (own_g (2 : Int32) (0 : Int32) (2 : Int32) (own_ko K2))) + (own_g (3 : Int32) (0 : Int32) (2 : Int32) (own_ko K3))) = (0 : Int32) ∧ ¬ (1 : Int32) < ((((own_g (0 : Int32) (0 : Int32) (2 : Int32) (own_kp K0)) + (own_g (1 : Int32) (0 : Int32) (2 : Int32) (own_kp K1))) + (own_g (2 : Int32) (0 : Int32) (2 : Int32) (own_kp K2))) + (own_g (3 : Int32) (0 : Int32) (2 : Int32) (own_kp K3))) ∧ ¬ ((((own_g (0 : Int32) (0 : Int32) (2 : Int32) (own_kd K0)) + (own_g (1 : Int32) (0 : Int32) (2 : Int32) (own_kd K1))) + (own_g (2 : Int32) (0 : Int32) (2 : Int32) (own_kd K2))) + (own_g (3 : Int32) (0 : Int32) (2 : Int32) (own_kd K3))) < (1 : Int32)) then 1 else 0 := by decide +kernel
theorem own_f_2_1 : ∀ (K0 K1 K2 K3 : Fin 3), own_run [K1] 0 0 = if (((((own_g (0 : Int32) (1 : Int32) (2 : Int32) (own_ko K0)) + (own_g (1 : Int32) (1 : Int32) (2 : Int32) (own_ko K1))) + (own_g (2 : Int32) (1 : Int32) (2 : Int32) (own_ko K2))) + (own_g (3 : Int32) (1 : Int32) (2 : Int32) (own_ko K3))) = (0 : Int32) ∧ ¬ (1 : Int32) < ((((own_g (0 : Int32) (1 : Int32) (2 : Int32) (own_kp K0)) + (own_g (1 : Int32) (1 : Int32) (2 : Int32) (own_kp K1))) + (own_g (2 : Int32) (1 : Int32) (2 : Int32) (own_kp K2))) + (own_g (3 : Int32) (1 : Int32) (2 : Int32) (own_kp K3))) ∧ ¬ ((((own_g (0 : Int32) (1 : Int32) (2 : Int32) (own_kd K0)) + (own_g (1 : Int32) (1 : Int32) (2 : Int32) (own_kd K1))) + (own_g (2 : Int32) (1 : Int32) (2 : Int32) (own_kd K2))) + (own_g (3 : Int32) (1 : Int32) (2 : Int32) (own_kd K3))) < (1 : Int32)) then 1 else 0 := by decide +kernel
theorem own_fin_2 {c0 c1 c2 c3 fr ex OO PP DD : Int32} (hfr : own_R (¬ (2 : Int32) < (1 : Int32) ∧ own_sg c0) fr) (hD : ((((own_g (0 : Int32) fr (2 : Int32) (own_kd (own_cls c0))) + (own_g (1 : Int32) fr (2 : Int32) (own_kd (own_cls c1)))) + (own_g (2 : Int32) fr (2 : Int32) (own_kd (own_cls c2)))) + (own_g (3 : Int32) fr (2 : Int32) (own_kd (own_cls c3)))) = DD) (hP : ((((own_g (0 : Int32) fr (2 : Int32) (own_kp (own_cls c0))) + (own_g (1 : Int32) fr (2 : Int32) (own_kp (own_cls c1)))) + (own_g (2 : Int32) fr (2 : Int32) (own_kp (own_cls c2)))) + (own_g (3 : Int32) fr (2 : Int32) (own_kp (own_cls c3)))) = PP) (hO : ((((own_g (0 : Int32) fr (2 : Int32) (own_ko (own_cls c0))) + (own_g (1 : Int32) fr (2 : Int32) (own_ko (own_cls c1)))) + (own_g (2 : Int32) fr (2 : Int32) (own_ko (own_cls c2)))) + (own_g (3 : Int32) fr (2 : Int32) (own_ko (own_cls c3)))) = OO) (hx : own_R (OO = (0 : Int32) ∧ ¬ (1 : Int32) < PP ∧ ¬ DD < (1 : Int32)) ex) : (if own_sg c0 then (own_run [own_cls c1] 0 0) else (own_run [own_cls c0, own_cls c1] 0 0)) = ex := by
  have e : ex = if (OO = (0 : Int32) ∧ ¬ (1 : Int32) < PP ∧ ¬ DD < (1 : Int32)) then 1 else 0 := by rcases hx with ⟨rfl, q⟩ | ⟨rfl, q⟩; rw [if_pos q]; rw [if_neg q]
  subst hD hP hO
  rw [e]
  rcases hfr with ⟨rfl, q⟩ | ⟨rfl, q⟩
  · rw [if_pos q.2]; exact own_f_2_1 _ _ _ _
  · rw [if_neg fun z => q ⟨by decide, z⟩]; exact own_f_2_0 _ _ _ _
theorem own_f_3_0 : ∀ (K0 K1 K2 K3 : Fin 3), own_run [K0, K1, K2] 0 0 = if (((((own_g (0 : Int32) (0 : Int32) (3 : Int32) (own_ko K0)) + (own_g (1 : Int32) (0 : Int32) (3 : Int32) (own_ko K1))) + (own_g (2 : Int32) (0 : Int32) (3 : Int32) (own_ko K2))) + (own_g (3 : Int32) (0 : Int32) (3 : Int32) (own_ko K3))) = (0 : Int32) ∧ ¬ (1 : Int32) < ((((own_g (0 : Int32) (0 : Int32) (3 : Int32) (own_kp K0)) + (own_g (1 : Int32) (0 : Int32) (3 : Int32) (own_kp K1))) + (own_g (2 : Int32) (0 : Int32) (3 : Int32) (own_kp K2))) + (own_g (3 : Int32) (0 : Int32) (3 : Int32) (own_kp K3))) ∧ ¬ ((((own_g (0 : Int32) (0 : Int32) (3 : Int32) (own_kd K0)) + (own_g (1 : Int32) (0 : Int32) (3 : Int32) (own_kd K1))) + (own_g (2 : Int32) (0 : Int32) (3 : Int32) (own_kd K2))) + (own_g (3 : Int32) (0 : Int32) (3 : Int32) (own_kd K3))) < (1 : Int32)) then 1 else 0 := by decide +kernel
theorem own_f_3_1 : ∀ (K0 K1 K2 K3 : Fin 3), own_run [K1, K2] 0 0 = if (((((own_g (0 : Int32) (1 : Int32) (3 : Int32) (own_ko K0)) + (own_g (1 : Int32) (1 : Int32) (3 : Int32) (own_ko K1))) + (own_g (2 : Int32) (1 : Int32) (3 : Int32) (own_ko K2))) + (own_g (3 : Int32) (1 : Int32) (3 : Int32) (own_ko K3))) = (0 : Int32) ∧ ¬ (1 : Int32) < ((((own_g (0 : Int32) (1 : Int32) (3 : Int32) (own_kp K0)) + (own_g (1 : Int32) (1 : Int32) (3 : Int32) (own_kp K1))) + (own_g (2 : Int32) (1 : Int32) (3 : Int32) (own_kp K2))) + (own_g (3 : Int32) (1 : Int32) (3 : Int32) (own_kp K3))) ∧ ¬ ((((own_g (0 : Int32) (1 : Int32) (3 : Int32) (own_kd K0)) + (own_g (1 : Int32) (1 : Int32) (3 : Int32) (own_kd K1))) + (own_g (2 : Int32) (1 : Int32) (3 : Int32) (own_kd K2))) + (own_g (3 : Int32) (1 : Int32) (3 : Int32) (own_kd K3))) < (1 : Int32)) then 1 else 0 := by decide +kernel
theorem own_fin_3 {c0 c1 c2 c3 fr ex OO PP DD : Int32} (hfr : own_R (¬ (3 : Int32) < (1 : Int32) ∧ own_sg c0) fr) (hD : ((((own_g (0 : Int32) fr (3 : Int32) (own_kd (own_cls c0))) + (own_g (1 : Int32) fr (3 : Int32) (own_kd (own_cls c1)))) + (own_g (2 : Int32) fr (3 : Int32) (own_kd (own_cls c2)))) + (own_g (3 : Int32) fr (3 : Int32) (own_kd (own_cls c3)))) = DD) (hP : ((((own_g (0 : Int32) fr (3 : Int32) (own_kp (own_cls c0))) + (own_g (1 : Int32) fr (3 : Int32) (own_kp (own_cls c1)))) + (own_g (2 : Int32) fr (3 : Int32) (own_kp (own_cls c2)))) + (own_g (3 : Int32) fr (3 : Int32) (own_kp (own_cls c3)))) = PP) (hO : ((((own_g (0 : Int32) fr (3 : Int32) (own_ko (own_cls c0))) + (own_g (1 : Int32) fr (3 : Int32) (own_ko (own_cls c1)))) + (own_g (2 : Int32) fr (3 : Int32) (own_ko (own_cls c2)))) + (own_g (3 : Int32) fr (3 : Int32) (own_ko (own_cls c3)))) = OO) (hx : own_R (OO = (0 : Int32) ∧ ¬ (1 : Int32) < PP ∧ ¬ DD < (1 : Int32)) ex) : (if own_sg c0 then (own_run [own_cls c1, own_cls c2] 0 0) else (own_run [own_cls c0, own_cls c1, own_cls c2] 0 0)) = ex := by
  have e : ex = if (OO = (0 : Int32) ∧ ¬ (1 : Int32) < PP ∧ ¬ DD < (1 : Int32)) then 1 else 0 := by rcases hx with ⟨rfl, q⟩ | ⟨rfl, q⟩; rw [if_pos q]; rw [if_neg q]
  subst hD hP hO
  rw [e]
  rcases hfr with ⟨rfl, q⟩ | ⟨rfl, q⟩
  · rw [if_pos q.2]; exact own_f_3_1 _ _ _ _
  · rw [if_neg fun z => q ⟨by decide, z⟩]; exact own_f_3_0 _ _ _ _
theorem own_f_4_0 : ∀ (K0 K1 K2 K3 : Fin 3), own_run [K0, K1, K2, K3] 0 0 = if (((((own_g (0 : Int32) (0 : Int32) (4 : Int32) (own_ko K0)) + (own_g (1 : Int32) (0 : Int32) (4 : Int32) (own_ko K1))) + (own_g (2 : Int32) (0 : Int32) (4 : Int32) (own_ko K2))) + (own_g (3 : Int32) (0 : Int32) (4 : Int32) (own_ko K3))) = (0 : Int32) ∧ ¬ (1 : Int32) < ((((own_g (0 : Int32) (0 : Int32) (4 : Int32) (own_kp K0)) + (own_g (1 : Int32) (0 : Int32) (4 : Int32) (own_kp K1))) + (own_g (2 : Int32) (0 : Int32) (4 : Int32) (own_kp K2))) + (own_g (3 : Int32) (0 : Int32) (4 : Int32) (own_kp K3))) ∧ ¬ ((((own_g (0 : Int32) (0 : Int32) (4 : Int32) (own_kd K0)) + (own_g (1 : Int32) (0 : Int32) (4 : Int32) (own_kd K1))) + (own_g (2 : Int32) (0 : Int32) (4 : Int32) (own_kd K2))) + (own_g (3 : Int32) (0 : Int32) (4 : Int32) (own_kd K3))) < (1 : Int32)) then 1 else 0 := by decide +kernel
theorem own_f_4_1 : ∀ (K0 K1 K2 K3 : Fin 3), own_run [K1, K2, K3] 0 0 = if (((((own_g (0 : Int32) (1 : Int32) (4 : Int32) (own_ko K0)) + (own_g (1 : Int32) (1 : Int32) (4 : Int32) (own_ko K1))) + (own_g (2 : Int32) (1 : Int32) (4 : Int32) (own_ko K2))) + (own_g (3 : Int32) (1 : Int32) (4 : Int32) (own_ko K3))) = (0 : Int32) ∧ ¬ (1 : Int32) < ((((own_g (0 : Int32) (1 : Int32) (4 : Int32) (own_kp K0)) + (own_g (1 : Int32) (1 : Int32) (4 : Int32) (own_kp K1))) + (own_g (2 : Int32) (1 : Int32) (4 : Int32) (own_kp K2))) + (own_g (3 : Int32) (1 : Int32) (4 : Int32) (own_kp K3))) ∧ ¬ ((((own_g (0 : Int32) (1 : Int32) (4 : Int32) (own_kd K0)) + (own_g (1 : Int32) (1 : Int32) (4 : Int32) (own_kd K1))) + (own_g (2 : Int32) (1 : Int32) (4 : Int32) (own_kd K2))) + (own_g (3 : Int32) (1 : Int32) (4 : Int32) (own_kd K3))) < (1 : Int32)) then 1 else 0 := by decide +kernel
theorem own_fin_4 {c0 c1 c2 c3 fr ex OO PP DD : Int32} (hfr : own_R (¬ (4 : Int32) < (1 : Int32) ∧ own_sg c0) fr) (hD : ((((own_g (0 : Int32) fr (4 : Int32) (own_kd (own_cls c0))) + (own_g (1 : Int32) fr (4 : Int32) (own_kd (own_cls c1)))) + (own_g (2 : Int32) fr (4 : Int32) (own_kd (own_cls c2)))) + (own_g (3 : Int32) fr (4 : Int32) (own_kd (own_cls c3)))) = DD) (hP : ((((own_g (0 : Int32) fr (4 : Int32) (own_kp (own_cls c0))) + (own_g (1 : Int32) fr (4 : Int32) (own_kp (own_cls c1)))) + (own_g (2 : Int32) fr (4 : Int32) (own_kp (own_cls c2)))) + (own_g (3 : Int32) fr (4 : Int32) (own_kp (own_cls c3)))) = PP) (hO : ((((own_g (0 : Int32) fr (4 : Int32) (own_ko (own_cls c0))) + (own_g (1 : Int32) fr (4 : Int32) (own_ko (own_cls c1)))) + (own_g (2 : Int32) fr (4 : Int32) (own_ko (own_cls c2)))) + (own_g (3 : Int32) fr (4 : Int32) (own_ko (own_cls c3)))) = OO) (hx : own_R (OO = (0 : Int32) ∧ ¬ (1 : Int32) < PP ∧ ¬ DD < (1 : Int32)) ex) : (if own_sg c0 then (own_run [own_cls c1, own_cls c2, own_cls c3] 0 0) else (own_run [own_cls c0, own_cls c1, own_cls c2, own_cls c3] 0 0)) = ex := by
  have e : ex = if (OO = (0 : Int32) ∧ ¬ (1 : Int32) < PP ∧ ¬ DD < (1 : Int32)) then 1 else 0 := by rcases hx with ⟨rfl, q⟩ | ⟨rfl, q⟩; rw [if_pos q]; rw [if_neg q]
  subst hD hP hO
  rw [e]
  rcases hfr with ⟨rfl, q⟩ | ⟨rfl, q⟩
  · rw [if_pos q.2]; exact own_f_4_1 _ _ _ _
  · rw [if_neg fun z => q ⟨by decide, z⟩]; exact own_f_4_0 _ _ _ _
theorem own_l0 {K0 : Fin 3} (k0 : K0 = 1) : own_run [K0] 0 0 = (0 : Int32) := by (try subst_vars) <;> simp [own_run]
theorem own_l1 {K0 : Fin 3} (k0 : K0 = 2) : own_run [K0] 0 0 = (0 : Int32) := by (try subst_vars) <;> simp [own_run]
theorem own_l2 {K0 : Fin 3} (k0 : K0 = 0) : own_run [K0] 0 0 = (1 : Int32) := by (try subst_vars) <;> simp [own_run]
theorem own_l3 {K0 K1 : Fin 3} (k0 : K0 = 1) (k1 : K1 = 1) : own_run [K0, K1] 0 0 = (0 : Int32) := by (try subst_vars) <;> simp [own_run]
theorem own_l4 {K0 K1 : Fin 3} (k0 : K0 = 1) (k1 : K1 = 2) : own_run [K0, K1] 0 0 = (0 : Int32) := by (try subst_vars) <;> simp [own_run]
theorem own_l5 {K0 K1 : Fin 3} (k0 : K0 = 1) (k1 : K1 = 0) : own_run [K0, K1] 0 0 = (1 : Int32) := by (try subst_vars) <;> simp [own_run]
theorem own_l6 {K0 K1 : Fin 3} (k0 : K0 = 2) : own_run [K0, K1] 0 0 = (0 : Int32) := by (try subst_vars) <;> simp [own_run]
theorem own_l7 {K0 K1 : Fin 3} (k0 : K0 = 0) (k1 : K1 = 1) : own_run [K0, K1] 0 0 = (1 : Int32) := by (try subst_vars) <;> simp [own_run]
theorem own_l8 {K0 K1 : Fin 3} (k0 : K0 = 0) (k1 : K1 = 2) : own_run [K0, K1] 0 0 = (0 : Int32) := by (try subst_vars) <;> simp [own_run]
theorem own_l9 {K0 K1 : Fin 3} (k0 : K0 = 0) (k1 : K1 = 0) : own_run [K0, K1] 0 0 = (1 : Int32) := by (try subst_vars) <;> simp [own_run]
theorem own_l10 {K1 : Fin 3} (k0 : K1 = 1) : own_run [K1] 0 0 = (0 : Int32) := by (try subst_vars) <;> simp [own_run]
theorem own_l11 {K1 : Fin 3} (k0 : K1 = 2) : own_run [K1] 0 0 = (0 : Int32) := by (try subst_vars) <;> simp [own_run]
theorem own_l12 {K1 : Fin 3} (k0 : K1 = 0) : own_run [K1] 0 0 = (1 : Int32) := by (try subst_vars) <;> simp [own_run]
theorem own_l13 {K0 K1 K2 : Fin 3} (k0 : K0 = 1) (k1 : K1 = 1) : own_run [K0, K1, K2] 0 0 = (0 : Int32) := by (try subst_vars) <;> simp [own_run]
theorem own_l14 {K0 K1 K2 : Fin 3} (k0 : K0 = 1) (k1 : K1 = 2) : own_run [K0, K1, K2] 0 0 = (0 : Int32) := by (try subst_vars) <;> simp [own_run]
theorem own_l15 {K0 K1 K2 : Fin 3} (k0 : K0 = 1) (k1 : K1 = 0) (k2 : K2 = 1) : own_run [K0, K1, K2] 0 0 = (0 : Int32) := by (try subst_vars) <;> simp [own_run]
theorem own_l16 {K0 K1 K2 : Fin 3} (k0 : K0 = 1) (k1 : K1 = 0) (k2 : K2 = 2) : own_run [K0, K1, K2] 0 0 = (0 : Int32) := by (try subst_vars) <;> simp [own_run]
theorem own_l17 {K0 K1 K2 : Fin 3} (k0 : K0 = 1) (k1 : K1 = 0) (k2 : K2 = 0) : own_run [K0, K1, K2] 0 0 = (1 : Int32) := by (try subst_vars) <;> simp [own_run]
theorem own_l18 {K0 K1 K2 : Fin 3} (k0 : K0 = 2) : own_run [K0, K1, K2] 0 0 = (0 : Int32) := by (try subst_vars) <;> simp [own_run]
theorem own_l19 {K0 K1 K2 : Fin 3} (k0 : K0 = 0) (k1 : K1 = 1) (k2 : K2 = 1) : own_run [K0, K1, K2] 0 0 = (0 : Int32) := by (try subst_vars) <;> simp [own_run]
theorem own_l20 {K0 K1 K2 : Fin 3} (k0 : K0 = 0) (k1 : K1 = 1) (k2 : K2 = 2) : own_run [K0, K1, K2] 0 0 = (0 : Int32) := by (try subst_vars) <;> simp [own_run]
theorem own_l21 {K0 K1 K2 : Fin 3} (k0 : K0 = 0) (k1 : K1 = 1) (k2 : K2 = 0) : own_run [K0, K1, K2] 0 0 = (1 : Int32) := by (try subst_vars) <;> simp [own_run]
theorem own_l22 {K0 K1 K2 : Fin 3} (k0 : K0 = 0) (k1 : K1 = 2) : own_run [K0, K1, K2] 0 0 = (0 : Int32) := by (try subst_vars) <;> simp [own_run]
theorem own_l23 {K0 K1 K2 : Fin 3} (k0 : K0 = 0) (k1 : K1 = 0) (k2 : K2 = 1) : own_run [K0, K1, K2] 0 0 = (1 : Int32) := by (try subst_vars) <;> simp [own_run]
theorem own_l24 {K0 K1 K2 : Fin 3} (k0 : K0 = 0) (k1 : K1 = 0) (k2 : K2 = 2) : own_run [K0, K1, K2] 0 0 = (0 : Int32) := by (try subst_vars) <;> simp [own_run]
theorem own_l25 {K0 K1 K2 : Fin 3} (k0 : K0 = 0) (k1 : K1 = 0) (k2 : K2 = 0) : own_run [K0, K1, K2] 0 0 = (1 : Int32) := by (try subst_vars) <;> simp [own_run]
theorem own_l26 {K1 K2 : Fin 3} (k0 : K1 = 1) (k1 : K2 = 1) : own_run [K1, K2] 0 0 = (0 : Int32) := by (try subst_vars) <;> simp [own_run]
theorem own_l27 {K1 K2 : Fin 3} (k0 : K1 = 1) (k1 : K2 = 2) : own_run [K1, K2] 0 0 = (0 : Int32) := by (try subst_vars) <;> simp [own_run]
theorem own_l28 {K1 K2 : Fin 3} (k0 : K1 = 1) (k1 : K2 = 0) : own_run [K1, K2] 0 0 = (1 : Int32) := by (try subst_vars) <;> simp [own_run]
theorem own_l29 {K1 K2 : Fin 3} (k0 : K1 = 2) : own_run [K1, K2] 0 0 = (0 : Int32) := by (try subst_vars) <;> simp [own_run]
theorem own_l30 {K1 K2 : Fin 3} (k0 : K1 = 0) (k1 : K2 = 1) : own_run [K1, K2] 0 0 = (1 : Int32) := by (try subst_vars) <;> simp [own_run]
theorem own_l31 {K1 K2 : Fin 3} (k0 : K1 = 0) (k1 : K2 = 2) : own_run [K1, K2] 0 0 = (0 : Int32) := by (try subst_vars) <;> simp [own_run]
theorem own_l32 {K1 K2 : Fin 3} (k0 : K1 = 0) (k1 : K2 = 0) : own_run [K1, K2] 0 0 = (1 : Int32) := by (try subst_vars) <;> simp [own_run]
theorem own_l33 {K0 K1 K2 K3 : Fin 3} (k0 : K0 = 1) (k1 : K1 = 1) : own_run [K0, K1, K2, K3] 0 0 = (0 : Int32) := by (try subst_vars) <;> simp [own_run]
theorem own_l34 {K0 K1 K2 K3 : Fin 3} (k0 : K0 = 1) (k1 : K1 = 2) : own_run [K0, K1, K2, K3] 0 0 = (0 : Int32) := by (try subst_vars) <;> simp [own_run]
theorem own_l35 {K0 K1 K2 K3 : Fin 3} (k0 : K0 = 1) (k1 : K1 = 0) (k2 : K2 = 1) : own_run [K0, K1, K2, K3] 0 0 = (0 : Int32) := by (try subst_vars) <;> simp [own_run]
theorem own_l36 {K0 K1 K2 K3 : Fin 3} (k0 : K0 = 1) (k1 : K1 = 0) (k2 : K2 = 2) : own_run [K0, K1, K2, K3] 0 0 = (0 : Int32) := by (try subst_vars) <;> simp [own_run]
theorem own_l37 {K0 K1 K2 K3 : Fin 3} (k0 : K0 = 1) (k1 : K1 = 0) (k2 : K2 = 0) (k3 : K3 = 1) : own_run [K0, K1, K2, K3] 0 0 = (0 : Int32) := by (try subst_vars) <;> simp [own_run]
theorem own_l38 {K0 K1 K2 K3 : Fin 3} (k0 : K0 = 1) (k1 : K1 = 0) (k2 : K2 = 0) (k3 : K3 = 2) : own_run [K0, K1, K2, K3] 0 0 = (0 : Int32) := by (try subst_vars) <;> simp [own_run]
theorem own_l39 {K0 K1 K2 K3 : Fin 3} (k0 : K0 = 1) (k1 : K1 = 0) (k2 : K2 = 0) (k3 : K3 = 0) : own_run [K0, K1, K2, K3] 0 0 = (1 : Int32) := by (try subst_vars) <;> simp [own_run]
theorem own_l40 {K0 K1 K2 K3 : Fin 3} (k0 : K0 = 2) : own_run [K0, K1, K2, K3] 0 0 = (0 : Int32) := by (try subst_vars) <;> simp [own_run]
theorem own_l41 {K0 K1 K2 K3 : Fin 3} (k0 : K0 = 0) (k1 : K1 = 1) (k2 : K2 = 1) : own_run [K0, K1, K2, K3] 0 0 = (0 : Int32) := by (try subst_vars) <;> simp [own_run]
theorem own_l42 {K0 K1 K2 K3 : Fin 3} (k0 : K0 = 0) (k1 : K1 = 1) (k2 : K2 = 2) : own_run [K0, K1, K2, K3] 0 0 = (0 : Int32) := by (try subst_vars) <;> simp [own_run]
theorem own_l43 {K0 K1 K2 K3 : Fin 3} (k0 : K0 = 0) (k1 : K1 = 1) (k2 : K2 = 0) (k3 : K3 = 1) : own_run [K0, K1, K2, K3] 0 0 = (0 : Int32) := by (try subst_vars) <;> simp [own_run]
theorem own_l44 {K0 K1 K2 K3 : Fin 3} (k0 : K0 = 0) (k1 : K1 = 1) (k2 : K2 = 0) (k3 : K3 = 2) : own_run [K0, K1, K2, K3] 0 0 = (0 : Int32) := by (try subst_vars) <;> simp [own_run]
theorem own_l45 {K0 K1 K2 K3 : Fin 3} (k0 : K0 = 0) (k1 : K1 = 1) (k2 : K2 = 0) (k3 : K3 = 0) : own_run [K0, K1, K2, K3] 0 0 = (1 : Int32) := by (try subst_vars) <;> simp [own_run]
theorem own_l46 {K0 K1 K2 K3 : Fin 3} (k0 : K0 = 0) (k1 : K1 = 2) : own_run [K0, K1, K2, K3] 0 0 = (0 : Int32) := by (try subst_vars) <;> simp [own_run]
theorem own_l47 {K0 K1 K2 K3 : Fin 3} (k0 : K0 = 0) (k1 : K1 = 0) (k2 : K2 = 1) (k3 : K3 = 1) : own_run [K0, K1, K2, K3] 0 0 = (0 : Int32) := by (try subst_vars) <;> simp [own_run]
theorem own_l48 {K0 K1 K2 K3 : Fin 3} (k0 : K0 = 0) (k1 : K1 = 0) (k2 : K2 = 1) (k3 : K3 = 2) : own_run [K0, K1, K2, K3] 0 0 = (0 : Int32) := by (try subst_vars) <;> simp [own_run]
theorem own_l49 {K0 K1 K2 K3 : Fin 3} (k0 : K0 = 0) (k1 : K1 = 0) (k2 : K2 = 1) (k3 : K3 = 0) : own_run [K0, K1, K2, K3] 0 0 = (1 : Int32) := by (try subst_vars) <;> simp [own_run]
theorem own_l50 {K0 K1 K2 K3 : Fin 3} (k0 : K0 = 0) (k1 : K1 = 0) (k2 : K2 = 2) : own_run [K0, K1, K2, K3] 0 0 = (0 : Int32) := by (try subst_vars) <;> simp [own_run]
theorem own_l51 {K0 K1 K2 K3 : Fin 3} (k0 : K0 = 0) (k1 : K1 = 0) (k2 : K2 = 0) (k3 : K3 = 1) : own_run [K0, K1, K2, K3] 0 0 = (1 : Int32) := by (try subst_vars) <;> simp [own_run]
theorem own_l52 {K0 K1 K2 K3 : Fin 3} (k0 : K0 = 0) (k1 : K1 = 0) (k2 : K2 = 0) (k3 : K3 = 2) : own_run [K0, K1, K2, K3] 0 0 = (0 : Int32) := by (try subst_vars) <;> simp [own_run]
theorem own_l53 {K0 K1 K2 K3 : Fin 3} (k0 : K0 = 0) (k1 : K1 = 0) (k2 : K2 = 0) (k3 : K3 = 0) : own_run [K0, K1, K2, K3] 0 0 = (1 : Int32) := by (try subst_vars) <;> simp [own_run]
theorem own_l54 {K1 K2 K3 : Fin 3} (k0 : K1 = 1) (k1 : K2 = 1) : own_run [K1, K2, K3] 0 0 = (0 : Int32) := by (try subst_vars) <;> simp [own_run]
theorem own_l55 {K1 K2 K3 : Fin 3} (k0 : K1 = 1) (k1 : K2 = 2) : own_run [K1, K2, K3] 0 0 = (0 : Int32) := by (try subst_vars) <;> simp [own_run]
theorem own_l56 {K1 K2 K3 : Fin 3} (k0 : K1 = 1) (k1 : K2 = 0) (k2 : K3 = 1) : own_run [K1, K2, K3] 0 0 = (0 : Int32) := by (try subst_vars) <;> simp [own_run]
theorem own_l57 {K1 K2 K3 : Fin 3} (k0 : K1 = 1) (k1 : K2 = 0) (k2 : K3 = 2) : own_run [K1, K2, K3] 0 0 = (0 : Int32) := by (try subst_vars) <;> simp [own_run]
theorem own_l58 {K1 K2 K3 : Fin 3} (k0 : K1 = 1) (k1 : K2 = 0) (k2 : K3 = 0) : own_run [K1, K2, K3] 0 0 = (1 : Int32) := by (try subst_vars) <;> simp [own_run]
theorem own_l59 {K1 K2 K3 : Fin 3} (k0 : K1 = 2) : own_run [K1, K2, K3] 0 0 = (0 : Int32) := by (try subst_vars) <;> simp [own_run]
theorem own_l60 {K1 K2 K3 : Fin 3} (k0 : K1 = 0) (k1 : K2 = 1) (k2 : K3 = 1) : own_run [K1, K2, K3] 0 0 = (0 : Int32) := by (try subst_vars) <;> simp [own_run]
theorem own_l61 {K1 K2 K3 : Fin 3} (k0 : K1 = 0) (k1 : K2 = 1) (k2 : K3 = 2) : own_run [K1, K2, K3] 0 0 = (0 : Int32) := by (try subst_vars) <;> simp [own_run]
theorem own_l62 {K1 K2 K3 : Fin 3} (k0 : K1 = 0) (k1 : K2 = 1) (k2 : K3 = 0) : own_run [K1, K2, K3] 0 0 = (1 : Int32) := by (try subst_vars) <;> simp [own_run]
theorem own_l63 {K1 K2 K3 : Fin 3} (k0 : K1 = 0) (k1 : K2 = 2) : own_run [K1, K2, K3] 0 0 = (0 : Int32) := by (try subst_vars) <;> simp [own_run]
theorem own_l64 {K1 K2 K3 : Fin 3} (k0 : K1 = 0) (k1 : K2 = 0) (k2 : K3 = 1) : own_run [K1, K2, K3] 0 0 = (1 : Int32) := by (try subst_vars) <;> simp [own_run]
theorem own_l65 {K1 K2 K3 : Fin 3} (k0 : K1 = 0) (k1 : K2 = 0) (k2 : K3 = 2) : own_run [K1, K2, K3] 0 0 = (0 : Int32) := by (try subst_vars) <;> simp [own_run]
theorem own_l66 {K1 K2 K3 : Fin 3} (k0 : K1 = 0) (k1 : K2 = 0) (k2 : K3 = 0) : own_run [K1, K2, K3] 0 0 = (1 : Int32) := by (try subst_vars) <;> simp [own_run]
theorem own_l67 {nn c0 : Int32} (k0 : (0 : Int32) < nn) (k1 : c0 = (43 : Int32)) : own_R (¬ nn < (1 : Int32) ∧ own_sg c0) (1 : Int32) := by unfold own_R own_sg; simp_all [Int32.lt_iff_toInt_lt]; try omega
theorem own_l68 {nn c0 : Int32} (k0 : (0 : Int32) < nn) (k1 : ¬ (c0 = (43 : Int32))) (k2 : c0 = (45 : Int32)) : own_R (¬ nn < (1 : Int32) ∧ own_sg c0) (1 : Int32) := by unfold own_R own_sg; simp_all [Int32.lt_iff_toInt_lt]; try omega
theorem own_l69 {nn c0 : Int32} (k0 : (0 : Int32) < nn) (k1 : ¬ (c0 = (43 : Int32))) (k2 : ¬ (c0 = (45 : Int32))) : own_R (¬ nn < (1 : Int32) ∧ own_sg c0) (0 : Int32) := by unfold own_R own_sg; simp_all [Int32.lt_iff_toInt_lt]; try omega
theorem own_l70 {nn c0 : Int32} (k0 : ¬ ((0 : Int32) < nn)) : own_R (¬ nn < (1 : Int32) ∧ own_sg c0) (0 : Int32) := by unfold own_R own_sg; simp_all [Int32.lt_iff_toInt_lt]; try omega
theorem own_l71 {OO PP DD : Int32} (k0 : OO = (0 : Int32)) (k1 : (1 : Int32) < PP) : own_R (OO = (0 : Int32) ∧ ¬ (1 : Int32) < PP ∧ ¬ DD < (1 : Int32)) (0 : Int32) := by unfold own_R; simp_all
theorem own_l72 {OO PP DD : Int32} (k0 : OO = (0 : Int32)) (k1 : ¬ ((1 : Int32) < PP)) (k2 : DD < (1 : Int32)) : own_R (OO = (0 : Int32) ∧ ¬ (1 : Int32) < PP ∧ ¬ DD < (1 : Int32)) (0 : Int32) := by unfold own_R; simp_all
theorem own_l73 {OO PP DD : Int32} (k0 : OO = (0 : Int32)) (k1 : ¬ ((1 : Int32) < PP)) (k2 : ¬ (DD < (1 : Int32))) : own_R (OO = (0 : Int32) ∧ ¬ (1 : Int32) < PP ∧ ¬ DD < (1 : Int32)) (1 : Int32) := by unfold own_R; simp_all
theorem own_l74 {OO PP DD : Int32} (k0 : ¬ (OO = (0 : Int32))) : own_R (OO = (0 : Int32) ∧ ¬ (1 : Int32) < PP ∧ ¬ DD < (1 : Int32)) (0 : Int32) := by unfold own_R; simp_all
theorem cGet (l : Launch) (Z : State) (a0 : Array Value) (hw : tHW Z a0) (ws : List Jvm.Cond) (t : Addr) (kb : ClassId) (vs : List Value) (N2 i j ch : Int32) (h0 : Heap) (n0 : Nat) (Z0 : n0 ≤ h0.size) (OLD : Old Z n0 h0) (SA : tSA Z) (SH : tSH Z) (SL : tSL Z) (V_t : Arv Z h0 t kb .byte N2 vs (.int (0 : Int32))) (hs : i <<< ((1 : Int32) &&& 31) = j) (hj : ¬ j < 0 ∧ j < N2) (hj1 : ¬ (j + (1 : Int32)) < 0 ∧ (j + (1 : Int32)) < N2) (hu : vs.getD j.toNatClampNeg (.int (0 : Int32)) = .int (StrChars.lo8 ch)) (hv : vs.getD (j + (1 : Int32)).toNatClampNeg (.int (0 : Int32)) = .int (StrChars.hi8 ch)) (Hi : C16 ch) :
    Con l (⟨"java/lang/StringUTF16", "getChar", "([BI)C"⟩ : MethodName) jdk_52_method_5_code 2 (some .char) ws ({ frames := 0, cells := 0, slots := 0, locals := 0 } : Room) Z #[(.ref t), (.int i)] h0 (fun v h L => v = some (.int ch) ∧ L = [] ∧ h = h0) 0 0 := by
  refine enter (plainFor_of_name pn_0) ?_
  intro p e s m below meth c s₁ hnm hret hlk D0
  rw [ef_cGet m t i]
  refine g_getS D0 3 (hw _ w_110) Via.refl (SA.ext OLD.2) d_jdk_52m5_0 rfl ?_
  intro T101 D101
  refine g_ifY D101 28 d_jdk_52m5_3 (by decide) (by decide) (by decide) ?_
  refine g_iloadN D101 29 d_jdk_52m5_28 rfl rfl ?_
  refine g_iconst D101 30 (1 : Int32) d_jdk_52m5_29 rfl rfl ?_
  refine g_ishl D101 31 d_jdk_52m5_30 rfl ?_
  rw [hs]
  refine g_istoreN D101 32 #[.val (.ref t), .val (.int j)] d_jdk_52m5_31 rfl rfl ?_
  refine g_aloadN D101 33 d_jdk_52m5_32 rfl rfl rfl ?_
  refine g_iloadN D101 34 d_jdk_52m5_33 rfl rfl ?_
  refine g_iinc D101 37 (1 : Int32) #[.val (.ref t), .val (.int (j + (1 : Int32)))] d_jdk_52m5_34 rfl rfl rfl rfl ?_
  refine g_baload D101 38 V_t hj hu d_jdk_52m5_37 rfl ?_
  refine g_sipush D101 41 (255 : Int32) d_jdk_52m5_38 rfl rfl ?_
  refine g_iand D101 42 d_jdk_52m5_41 rfl ?_
  refine g_getS D101 45 (hw _ w_111) Via.refl (SH.ext OLD.2) d_jdk_52m5_42 rfl ?_
  intro T102 D102
  refine g_ishl D102 46 d_jdk_52m5_45 rfl ?_
  refine g_aloadN D102 47 d_jdk_52m5_46 rfl rfl rfl ?_
  refine g_iloadN D102 48 d_jdk_52m5_47 rfl rfl ?_
  refine g_baload D102 49 V_t hj1 hv d_jdk_52m5_48 rfl ?_
  refine g_sipush D102 52 (255 : Int32) d_jdk_52m5_49 rfl rfl ?_
  refine g_iand D102 53 d_jdk_52m5_52 rfl ?_
  refine g_getS D102 56 (hw _ w_112) Via.refl (SL.ext OLD.2) d_jdk_52m5_53 rfl ?_
  intro T103 D103
  refine g_ishl D103 57 d_jdk_52m5_56 rfl ?_
  refine g_ior D103 58 d_jdk_52m5_57 rfl ?_
  refine g_i2c D103 59 d_jdk_52m5_58 rfl ?_
  exact r_N D103 hret (by simp) hlk d_jdk_52m5_59 ⟨congrArg (fun z => some (Value.int z)) (get_says Hi), rfl, rfl⟩ (by decide) (by decide)
theorem cNL_1 (l : Launch) (Z : State) (a0 : Array Value) (hw : tHW Z a0) (ws : List Jvm.Cond)  (h0 : Heap) (n0 : Nat) (Z0 : n0 ≤ h0.size)  :
    Con l (⟨"java/lang/StringUTF16", "newBytesLength", "(I)I"⟩ : MethodName) jdk_52_method_3_code 1 (some .int) ws ({ frames := 0, cells := 0, slots := 0, locals := 0 } : Room) Z #[(.int (1 : Int32))] h0 (fun v h L => v = some (.int (2 : Int32)) ∧ L = [] ∧ h = h0) 0 0 := by
  refine enter (plainFor_of_name pn_0) ?_
  intro p e s m below meth c s₁ hnm hret hlk D0
  rw [ef_cNL_1 m]
  refine g_iloadN D0 1 d_jdk_52m3_0 rfl rfl ?_
  refine g_ifY D0 12 d_jdk_52m3_1 (by decide) (by decide) (by decide) ?_
  refine g_iloadN D0 13 d_jdk_52m3_12 rfl rfl ?_
  refine g_ldcI D0 15 (hw _ w_106) d_jdk_52m3_13 rfl ?_
  refine g_icmpY D0 55 d_jdk_52m3_15 (by decide) (by decide) (by decide) ?_
  refine g_iloadN D0 56 d_jdk_52m3_55 rfl rfl ?_
  refine g_iconst D0 57 (1 : Int32) d_jdk_52m3_56 rfl rfl ?_
  refine g_ishl D0 58 d_jdk_52m3_57 rfl ?_
  rw [show ((1 : Int32) <<< ((1 : Int32) &&& 31)) = (2 : Int32) from by decide]
  exact r_I D0 hret hlk d_jdk_52m3_58 ⟨rfl, rfl, rfl⟩ (by decide) (by decide)
def Q_cNB_1 (Z : State)  (h0 : Heap) (n0 : Nat) : Option Value → Heap → List Loc → Prop := (fun v h L => ∃ a k, v = some (.ref a) ∧ h0.size ≤ a ∧ Fr n0 L ∧ Ext h0 h ∧ Arv Z h a k .byte (2 : Int32) [(.int (0 : Int32)), (.int (0 : Int32))] (.int (0 : Int32)))
theorem cNB_1 (l : Launch) (Z : State) (a0 : Array Value) (hw : tHW Z a0) (ws : List Jvm.Cond)  (h0 : Heap) (n0 : Nat) (Z0 : n0 ≤ h0.size)  :
    Con l (⟨"java/lang/StringUTF16", "newBytesFor", "(I)[B"⟩ : MethodName) jdk_52_method_2_code 1 (some (.array .byte)) ws ({ frames := 1, cells := 1, slots := 2, locals := 12 } : Room) Z #[(.int (1 : Int32))] h0 (Q_cNB_1 Z  h0 n0) 1 2 := by
  refine enter (plainFor_of_name pn_0) ?_
  intro p e s m below meth c s₁ hnm hret hlk D0
  rw [ef_cNB_1 m]
  refine g_iloadN D0 1 d_jdk_52m2_0 rfl rfl ?_
  refine g_callSp D0 4 (hw _ w_103) (hw _ w_104) (hw _ w_61) (hw _ w_105) (by decide) ((cNL_1 l Z a0 hw [] h0 n0 Z0).back D0 0 (hw _ w_105) (hw _ w_61) (by decide) (by decide)) rfl [(.int (1 : Int32))] rfl (lenOf pd_0 rfl) rfl (Nat.le_of_eq rfl) (by decide) (by decide) d_jdk_52m2_1 rfl ?_
  intro v104 T104 q104 D104
  subst q104
  show Go p e below _ (T104.setTop (mkF m 4 #[.val (.int (1 : Int32))] [(.int (2 : Int32))]))
  refine g_newP D104 6 (aty := .byte) (hw _ w_21) d_jdk_52m2_4 (by decide) (cap := 2) (by decide) (by decide) (by decide) (by decide) (fun _ _ => trivial) rfl ?_
  intro T105 h105 a105 k105 g105 E105 V105 D105
  have V105' : Arv Z h105 a105 k105 .byte (2 : Int32) [(.int (0 : Int32)), (.int (0 : Int32))] (.int (0 : Int32)) := V105.pad (pad_rep [] (.int (0 : Int32)) 2)
  exact r_A D105 hret rfl rfl hlk d_jdk_52m2_6 ⟨a105, _, rfl, (Nat.le_trans (Nat.le_refl _) (Nat.le_of_eq g105.symm)), (Fr.nil n0), Keep.toExt ((Keep.refl _ []).ext E105), V105'⟩ (by decide) (by decide)
def Q_cPut_1_0 (Z : State) (t : Addr) (kb : ClassId) (ch : Int32) (v0 v1 : Value) (h0 : Heap) (n0 : Nat) : Option Value → Heap → List Loc → Prop := (fun v h L => v = none ∧ Fr n0 L ∧ Keep h0 h [t] ∧ Arv Z h t kb .byte (2 : Int32) [(.int (StrChars.lo8 ch)), (.int (StrChars.hi8 ch))] (.int (0 : Int32)))
theorem cPut_1_0 (l : Launch) (Z : State) (a0 : Array Value) (hw : tHW Z a0) (ws : List Jvm.Cond) (t : Addr) (kb : ClassId) (ch : Int32) (v0 v1 : Value) (h0 : Heap) (n0 : Nat) (Z0 : n0 ≤ h0.size) (OLD : Old Z n0 h0) (SA : tSA Z) (SH : tSH Z) (SL : tSL Z) (V_t : Arv Z h0 t kb .byte (2 : Int32) [v0, v1] (.int (0 : Int32))) (gt : n0 ≤ t) :
    Con l (⟨"java/lang/StringUTF16", "putChar", "([BII)V"⟩ : MethodName) jdk_52_method_4_code 3 none ws ({ frames := 0, cells := 0, slots := 0, locals := 0 } : Room) Z #[(.ref t), (.int (0 : Int32)), (.int ch)] h0 (Q_cPut_1_0 Z t kb ch v0 v1 h0 n0) 0 0 := by
  refine enter (plainFor_of_name pn_0) ?_
  intro p e s m below meth c s₁ hnm hret hlk D0
  rw [ef_cPut_1_0 m t ch]
  refine g_getS D0 3 (hw _ w_110) Via.refl (SA.ext OLD.2) d_jdk_52m4_0 rfl ?_
  intro T106 D106
  refine g_ifY D106 28 d_jdk_52m4_3 (by decide) (by decide) (by decide) ?_
  refine g_iloadN D106 29 d_jdk_52m4_28 rfl rfl ?_
  refine g_iconst D106 30 (1 : Int32) d_jdk_52m4_29 rfl rfl ?_
  refine g_ishl D106 31 d_jdk_52m4_30 rfl ?_
  rw [show ((0 : Int32) <<< ((1 : Int32) &&& 31)) = (0 : Int32) from by decide]
  refine g_istoreN D106 32 #[.val (.ref t), .val (.int (0 : Int32)), .val (.int ch)] d_jdk_52m4_31 rfl rfl ?_
  refine g_aloadN D106 33 d_jdk_52m4_32 rfl rfl rfl ?_
  refine g_iloadN D106 34 d_jdk_52m4_33 rfl rfl ?_
  refine g_iinc D106 37 (1 : Int32) #[.val (.ref t), .val (.int ((0 : Int32) + (1 : Int32))), .val (.int ch)] d_jdk_52m4_34 rfl rfl rfl rfl ?_
  rw [show ((0 : Int32) + (1 : Int32)) = (1 : Int32) from by decide]
  refine g_iloadN D106 38 d_jdk_52m4_37 rfl rfl ?_
  refine g_getS D106 41 (hw _ w_111) Via.refl (SH.ext OLD.2) d_jdk_52m4_38 rfl ?_
  intro T107 D107
  refine g_ishr D107 42 d_jdk_52m4_41 rfl ?_
  refine g_i2b D107 43 d_jdk_52m4_42 rfl ?_
  refine g_bastore D107 44 V_t ⟨by decide, by decide⟩ 0 (by decide) (Nat.le_of_ble_eq_true rfl) (fun _ _ => trivial) d_jdk_52m4_43 rfl ?_
  intro T108 h108 W108 V108 D108
  rw [nb_lo ch] at V108
  replace V108 : Arv Z h108 t kb .byte (2 : Int32) [(.int (StrChars.lo8 ch)), v1] (.int (0 : Int32)) := V108
  have N108 := Fr.snoc D108.st (Fr.nil n0) gt
  refine g_aloadN D108 45 d_jdk_52m4_44 rfl rfl rfl ?_
  refine g_iloadN D108 46 d_jdk_52m4_45 rfl rfl ?_
  refine g_iloadN D108 47 d_jdk_52m4_46 rfl rfl ?_
  refine g_getS D108 50 (hw _ w_112) Via.refl (SL.ext (OLD.wr W108 gt).2) d_jdk_52m4_47 rfl ?_
  intro T109 D109
  refine g_ishr D109 51 d_jdk_52m4_50 rfl ?_
  refine g_i2b D109 52 d_jdk_52m4_51 rfl ?_
  refine g_bastore D109 53 V108 ⟨by decide, by decide⟩ 1 (by decide) (Nat.le_of_ble_eq_true rfl) (fun _ _ => trivial) d_jdk_52m4_52 rfl ?_
  intro T110 h110 W110 V110 D110
  rw [nb_hi ch] at V110
  replace V110 : Arv Z h110 t kb .byte (2 : Int32) [(.int (StrChars.lo8 ch)), (.int (StrChars.hi8 ch))] (.int (0 : Int32)) := V110
  have N110 := Fr.snoc D110.st N108 gt
  exact r_V D110 hret hlk d_jdk_52m4_53 ⟨rfl, N110, (((Keep.refl _ [t]).wr W108 (Or.inl (List.mem_of_getElem? (i := 0) rfl))).wr W110 (Or.inl (List.mem_of_getElem? (i := 0) rfl))), V110⟩ (by decide) (by decide)
def Q_cToB_1 (Z : State) (b : Addr) (kc : ClassId) (c0 : Int32) (h0 : Heap) (n0 : Nat) : Option Value → Heap → List Loc → Prop := (fun v h L => ∃ t k, v = some (.ref t) ∧ h0.size ≤ t ∧ Fr n0 L ∧ Ext h0 h ∧ Arv Z h t k .byte (2 : Int32) (StrChars.Road.wideBytes [c0]) (.int (0 : Int32)))
theorem cToB_1 (l : Launch) (Z : State) (a0 : Array Value) (hw : tHW Z a0) (ws : List Jvm.Cond) (b : Addr) (kc : ClassId) (c0 : Int32) (h0 : Heap) (n0 : Nat) (Z0 : n0 ≤ h0.size) (OLD : Old Z n0 h0) (SA : tSA Z) (SH : tSH Z) (SL : tSL Z) (V_b : Arv Z h0 b kc .char (1 : Int32) [(.int c0)] (.int (0 : Int32))) :
    Con l (⟨"java/lang/StringUTF16", "toBytes", "([CII)[B"⟩ : MethodName) jdk_52_method_14_code 5 (some (.array .byte)) ws ({ frames := 2, cells := 1, slots := 2, locals := 24 } : Room) Z #[(.ref b), (.int (0 : Int32)), (.int (1 : Int32))] h0 (Q_cToB_1 Z b kc c0 h0 n0) 1 2 := by
  refine enter (plainFor_of_name pn_0) ?_
  intro p e s m below meth c s₁ hnm hret hlk D0
  rw [ef_cToB_1 m b]
  refine g_iloadN D0 1 d_jdk_52m14_0 rfl rfl ?_
  refine g_callS D0 4 (hw _ w_100) (hw _ w_101) (hw _ w_61) (hw _ w_102) (by decide) ((cNB_1 l Z a0 hw [] h0 n0 Z0).back D0 0 (hw _ w_102) (hw _ w_61) (by decide) (by decide)) rfl [(.int (1 : Int32))] rfl (lenOf pd_1 rfl) rfl (Nat.le_of_eq rfl) (by decide) (by decide) (fun _ _ _ _ => trivial) d_jdk_52m14_1 rfl ?_
  intro v111 T111 h111 L111 q111 D111
  obtain ⟨t111, k111, rfl, g111, N111, E111, V111⟩ := q111
  have NF111 := Fr.app (Fr.nil n0) N111
  show Go p e below _ (T111.setTop (mkF m 4 #[.val (.ref b), .val (.int (0 : Int32)), .val (.int (1 : Int32)), .unset, .unset] [(.ref t111)]))
  refine g_astoreN D111 5 #[.val (.ref b), .val (.int (0 : Int32)), .val (.int (1 : Int32)), .val (.ref t111), .unset] d_jdk_52m14_4 rfl rfl rfl ?_
  refine g_iconst D111 6 (0 : Int32) d_jdk_52m14_5 rfl rfl ?_
  refine g_istore D111 8 #[.val (.ref b), .val (.int (0 : Int32)), .val (.int (1 : Int32)), .val (.ref t111), .val (.int (0 : Int32))] d_jdk_52m14_6 rfl rfl ?_
  refine g_iload D111 10 d_jdk_52m14_8 rfl rfl ?_
  refine g_iloadN D111 11 d_jdk_52m14_10 rfl rfl ?_
  refine g_icmpN D111 14 d_jdk_52m14_11 (by decide) rfl ?_
  refine g_aloadN D111 15 d_jdk_52m14_14 rfl rfl rfl ?_
  refine g_iload D111 17 d_jdk_52m14_15 rfl rfl ?_
  refine g_aloadN D111 18 d_jdk_52m14_17 rfl rfl rfl ?_
  refine g_iloadN D111 19 d_jdk_52m14_18 rfl rfl ?_
  refine g_caload D111 20 (V_b.ext E111) (v := (.int c0)) ⟨by decide, by decide⟩ rfl d_jdk_52m14_19 rfl ?_
  refine g_callS D111 23 (hw _ w_107) (hw _ w_108) (hw _ w_61) (hw _ w_109) (by decide) ((cPut_1_0 l Z a0 hw [] t111 k111 c0 (.int (0 : Int32)) (.int (0 : Int32)) h111 n0 (Nat.le_trans Z0 E111.1) (OLD.ext E111) SA SH SL V111 (Nat.le_trans Z0 g111)).back D111 0 (hw _ w_109) (hw _ w_61) (by decide) (by decide)) rfl [(.ref t111), (.int (0 : Int32)), (.int c0)] rfl (lenOf pd_2 rfl) rfl (Nat.le_of_eq rfl) (by decide) (by decide) (fun _ _ _ _ => trivial) d_jdk_52m14_20 rfl ?_
  intro v112 T112 h112 L112 q112 D112
  obtain ⟨rfl, N112, K112, V112⟩ := q112
  have NF112 := Fr.app NF111 N112
  show Go p e below _ (T112.setTop (mkF m 23 #[.val (.ref b), .val (.int (0 : Int32)), .val (.int (1 : Int32)), .val (.ref t111), .val (.int (0 : Int32))] []))
  refine g_iinc D112 26 (1 : Int32) #[.val (.ref b), .val (.int ((0 : Int32) + (1 : Int32))), .val (.int (1 : Int32)), .val (.ref t111), .val (.int (0 : Int32))] d_jdk_52m14_23 rfl rfl rfl rfl ?_
  rw [show ((0 : Int32) + (1 : Int32)) = (1 : Int32) from by decide]
  refine g_iinc D112 29 (1 : Int32) #[.val (.ref b), .val (.int (1 : Int32)), .val (.int (1 : Int32)), .val (.ref t111), .val (.int ((0 : Int32) + (1 : Int32)))] d_jdk_52m14_26 rfl rfl rfl rfl ?_
  rw [show ((0 : Int32) + (1 : Int32)) = (1 : Int32) from by decide]
  refine g_goto D112 8 d_jdk_52m14_29 (by decide) (by decide) ?_
  refine g_iload D112 10 d_jdk_52m14_8 rfl rfl ?_
  refine g_iloadN D112 11 d_jdk_52m14_10 rfl rfl ?_
  refine g_icmpY D112 32 d_jdk_52m14_11 (by decide) (by decide) (by decide) ?_
  refine g_aloadN D112 33 d_jdk_52m14_32 rfl rfl rfl ?_
  exact r_A D112 hret rfl rfl hlk d_jdk_52m14_33 ⟨t111, k111, rfl, (Nat.le_trans (Nat.le_refl _) g111), NF112, Keep.toExt (((Keep.refl _ []).ext E111).trans K112 (allS (Or.inr (Nat.le_trans (Nat.le_refl _) g111)) all0)), V112⟩ (by decide) (by decide)
def Q_cC5_1 (Z : State) (b d : Addr) (kc kd : ClassId) (c0 : Int32) (h0 : Heap) (n0 : Nat) : Option Value → Heap → List Loc → Prop := (fun v h L => Fr n0 L ∧ Keep h0 h [d] ∧ (((255 : Int32) < c0 ∧ v = some (.int (0 : Int32))) ∨ (¬ (255 : Int32) < c0 ∧ v = some (.int (1 : Int32)) ∧ Arv Z h d kd .byte (1 : Int32) [(.int (StrChars.lo8 c0))] (.int (0 : Int32)))))
theorem cC5_1 (l : Launch) (Z : State) (a0 : Array Value) (hw : tHW Z a0) (ws : List Jvm.Cond) (b d : Addr) (kc kd : ClassId) (c0 : Int32) (h0 : Heap) (n0 : Nat) (Z0 : n0 ≤ h0.size) (V_b : Arv Z h0 b kc .char (1 : Int32) [(.int c0)] (.int (0 : Int32))) (V_d : Arv Z h0 d kd .byte (1 : Int32) [(.int (0 : Int32))] (.int (0 : Int32))) (gd : n0 ≤ d) (nbd : b ≠ d) :
    Con l (⟨"java/lang/StringUTF16", "compress", "([CI[BII)I"⟩ : MethodName) jdk_52_method_21_code 7 (some .int) ws ({ frames := 0, cells := 0, slots := 0, locals := 0 } : Room) Z #[(.ref b), (.int (0 : Int32)), (.ref d), (.int (0 : Int32)), (.int (1 : Int32))] h0 (Q_cC5_1 Z b d kc kd c0 h0 n0) 0 0 := by
  refine enter (plainFor_of_name pn_0) ?_
  intro p e s m below meth c s₁ hnm hret hlk D0
  rw [ef_cC5_1 m b d]
  refine g_iconst D0 1 (0 : Int32) d_jdk_52m21_0 rfl rfl ?_
  refine g_istore D0 3 #[.val (.ref b), .val (.int (0 : Int32)), .val (.ref d), .val (.int (0 : Int32)), .val (.int (1 : Int32)), .val (.int (0 : Int32)), .unset] d_jdk_52m21_1 rfl rfl ?_
  refine g_iload D0 5 d_jdk_52m21_3 rfl rfl ?_
  refine g_iload D0 7 d_jdk_52m21_5 rfl rfl ?_
  refine g_icmpN D0 10 d_jdk_52m21_7 (by decide) rfl ?_
  refine g_aloadN D0 11 d_jdk_52m21_10 rfl rfl rfl ?_
  refine g_iloadN D0 12 d_jdk_52m21_11 rfl rfl ?_
  refine g_caload D0 13 V_b (v := (.int c0)) ⟨by decide, by decide⟩ rfl d_jdk_52m21_12 rfl ?_
  refine g_istore D0 15 #[.val (.ref b), .val (.int (0 : Int32)), .val (.ref d), .val (.int (0 : Int32)), .val (.int (1 : Int32)), .val (.int (0 : Int32)), .val (.int c0)] d_jdk_52m21_13 rfl rfl ?_
  refine g_iload D0 17 d_jdk_52m21_15 rfl rfl ?_
  refine g_sipush D0 20 (255 : Int32) d_jdk_52m21_17 rfl rfl ?_
  by_cases q0 : (255 : Int32) < c0
  · refine g_icmpN D0 23 d_jdk_52m21_20 (tlt q0).2.2.2 rfl ?_
    refine g_iload D0 25 d_jdk_52m21_23 rfl rfl ?_
    exact r_I D0 hret hlk d_jdk_52m21_25 ⟨(Fr.nil n0), (Keep.refl _ [d]), Or.inl ⟨q0, rfl⟩⟩ (by decide) (by decide)
  refine g_icmpY D0 26 d_jdk_52m21_20 (flt q0).2.2.2 (by decide) (by decide) ?_
  refine g_aloadN D0 27 d_jdk_52m21_26 rfl rfl rfl ?_
  refine g_iloadN D0 28 d_jdk_52m21_27 rfl rfl ?_
  refine g_iload D0 30 d_jdk_52m21_28 rfl rfl ?_
  refine g_i2b D0 31 d_jdk_52m21_30 rfl ?_
  refine g_bastore D0 32 V_d ⟨by decide, by decide⟩ 0 (by decide) (Nat.le_of_ble_eq_true rfl) (fun _ _ => trivial) d_jdk_52m21_31 rfl ?_
  intro T113 h113 W113 V113 D113
  rw [nb_b c0] at V113
  replace V113 : Arv Z h113 d kd .byte (1 : Int32) [(.int (StrChars.lo8 c0))] (.int (0 : Int32)) := V113
  have N113 := Fr.snoc D113.st (Fr.nil n0) gd
  refine g_iinc D113 35 (1 : Int32) #[.val (.ref b), .val (.int ((0 : Int32) + (1 : Int32))), .val (.ref d), .val (.int (0 : Int32)), .val (.int (1 : Int32)), .val (.int (0 : Int32)), .val (.int c0)] d_jdk_52m21_32 rfl rfl rfl rfl ?_
  rw [show ((0 : Int32) + (1 : Int32)) = (1 : Int32) from by decide]
  refine g_iinc D113 38 (1 : Int32) #[.val (.ref b), .val (.int (1 : Int32)), .val (.ref d), .val (.int ((0 : Int32) + (1 : Int32))), .val (.int (1 : Int32)), .val (.int (0 : Int32)), .val (.int c0)] d_jdk_52m21_35 rfl rfl rfl rfl ?_
  rw [show ((0 : Int32) + (1 : Int32)) = (1 : Int32) from by decide]
  refine g_iinc D113 41 (1 : Int32) #[.val (.ref b), .val (.int (1 : Int32)), .val (.ref d), .val (.int (1 : Int32)), .val (.int (1 : Int32)), .val (.int ((0 : Int32) + (1 : Int32))), .val (.int c0)] d_jdk_52m21_38 rfl rfl rfl rfl ?_
  rw [show ((0 : Int32) + (1 : Int32)) = (1 : Int32) from by decide]
  refine g_goto D113 3 d_jdk_52m21_41 (by decide) (by decide) ?_
  refine g_iload D113 5 d_jdk_52m21_3 rfl rfl ?_
  refine g_iload D113 7 d_jdk_52m21_5 rfl rfl ?_
  refine g_icmpY D113 44 d_jdk_52m21_7 (by decide) (by decide) (by decide) ?_
  refine g_iload D113 46 d_jdk_52m21_44 rfl rfl ?_
  exact r_I D113 hret hlk d_jdk_52m21_46 ⟨N113, ((Keep.refl _ [d]).wr W113 (Or.inl (List.mem_of_getElem? (i := 0) rfl))), Or.inr (⟨q0, rfl, V113⟩)⟩ (by decide) (by decide)
def Q_cC3_1 (Z : State) (b : Addr) (kc : ClassId) (c0 : Int32) (h0 : Heap) (n0 : Nat) : Option Value → Heap → List Loc → Prop := (fun v h L => ∃ t k cd N2 vs, v = some (.ref t) ∧ h0.size ≤ t ∧ Fr n0 L ∧ Ext h0 h ∧ Arv Z h t k .byte N2 vs (.int (0 : Int32)) ∧ StrChars.Road.CodA [c0] cd N2 vs)
theorem cC3_1 (l : Launch) (Z : State) (a0 : Array Value) (hw : tHW Z a0) (ws : List Jvm.Cond) (b : Addr) (kc : ClassId) (c0 : Int32) (h0 : Heap) (n0 : Nat) (Z0 : n0 ≤ h0.size) (OLD : Old Z n0 h0) (SA : tSA Z) (SH : tSH Z) (SL : tSL Z) (V_b : Arv Z h0 b kc .char (1 : Int32) [(.int c0)] (.int (0 : Int32))) (H0 : C16 c0) :
    Con l (⟨"java/lang/StringUTF16", "compress", "([CII)[B"⟩ : MethodName) jdk_52_method_16_code 6 (some (.array .byte)) ws ({ frames := 3, cells := 2, slots := 3, locals := 40 } : Room) Z #[(.ref b), (.int (0 : Int32)), (.int (1 : Int32))] h0 (Q_cC3_1 Z b kc c0 h0 n0) 2 3 := by
  refine enter (plainFor_of_name pn_0) ?_
  intro p e s m below meth c s₁ hnm hret hlk D0
  rw [ef_cC3_1 m b]
  refine g_iloadN D0 1 d_jdk_52m16_0 rfl rfl ?_
  refine g_newP D0 3 (aty := .byte) (hw _ w_21) d_jdk_52m16_1 (by decide) (cap := 1) (by decide) (by decide) (by decide) (by decide) (fun _ _ => trivial) rfl ?_
  intro T114 h114 a114 k114 g114 E114 V114 D114
  have V114' : Arv Z h114 a114 k114 .byte (1 : Int32) [(.int (0 : Int32))] (.int (0 : Int32)) := V114.pad (pad_rep [] (.int (0 : Int32)) 1)
  refine g_astoreN D114 4 #[.val (.ref b), .val (.int (0 : Int32)), .val (.int (1 : Int32)), .val (.ref a114), .unset, .unset] d_jdk_52m16_3 rfl rfl rfl ?_
  refine g_aloadN D114 5 d_jdk_52m16_4 rfl rfl rfl ?_
  refine g_iloadN D114 6 d_jdk_52m16_5 rfl rfl ?_
  refine g_aloadN D114 7 d_jdk_52m16_6 rfl rfl rfl ?_
  refine g_iconst D114 8 (0 : Int32) d_jdk_52m16_7 rfl rfl ?_
  refine g_iloadN D114 9 d_jdk_52m16_8 rfl rfl ?_
  refine g_callS D114 12 (hw _ w_63) (hw _ w_64) (hw _ w_61) (hw _ w_65) (by decide) ((cC5_1 l Z a0 hw [] b a114 kc k114 c0 h114 n0 (Nat.le_trans Z0 E114.1) (V_b.ext E114) V114' (Nat.le_trans Z0 (Nat.le_of_eq g114.symm)) (Nat.ne_of_lt (Nat.lt_of_lt_of_le V_b.lt (Nat.le_of_eq g114.symm)))).back D114 0 (hw _ w_65) (hw _ w_61) (by decide) (by decide)) rfl [(.ref b), (.int (0 : Int32)), (.ref a114), (.int (0 : Int32)), (.int (1 : Int32))] rfl (lenOf pd_3 rfl) rfl (Nat.le_of_eq rfl) (by decide) (by decide) (fun _ _ _ _ => trivial) d_jdk_52m16_9 rfl ?_
  intro v115 T115 h115 L115 q115 D115
  obtain ⟨N115, K115, q115⟩ := q115
  have NF115 := Fr.app (Fr.nil n0) N115
  rcases q115 with ⟨q0, rfl⟩ | ⟨q0, rfl, V115⟩
  · show Go p e below _ (T115.setTop (mkF m 12 #[.val (.ref b), .val (.int (0 : Int32)), .val (.int (1 : Int32)), .val (.ref a114), .unset, .unset] [(.int (0 : Int32))]))
    refine g_istore D115 14 #[.val (.ref b), .val (.int (0 : Int32)), .val (.int (1 : Int32)), .val (.ref a114), .val (.int (0 : Int32)), .unset] d_jdk_52m16_12 rfl rfl ?_
    refine g_iload D115 16 d_jdk_52m16_14 rfl rfl ?_
    refine g_iloadN D115 17 d_jdk_52m16_16 rfl rfl ?_
    refine g_icmpN D115 20 d_jdk_52m16_17 (by decide) rfl ?_
    refine g_aloadN D115 21 d_jdk_52m16_20 rfl rfl rfl ?_
    refine g_iloadN D115 22 d_jdk_52m16_21 rfl rfl ?_
    refine g_iloadN D115 23 d_jdk_52m16_22 rfl rfl ?_
    refine g_callS D115 26 (hw _ w_97) (hw _ w_98) (hw _ w_61) (hw _ w_99) (by decide) ((cToB_1 l Z a0 hw [] b kc c0 h115 n0 (Nat.le_trans (Nat.le_trans Z0 E114.1) K115.1) ((OLD.ext E114).keep K115 (allS (Nat.le_trans Z0 (Nat.le_of_eq g114.symm)) all0)) SA SH SL ((V_b.ext E114).keep K115 (ninS (Nat.ne_of_lt (Nat.lt_of_lt_of_le V_b.lt (Nat.le_of_eq g114.symm))) nin0))).back D115 0 (hw _ w_99) (hw _ w_61) (by decide) (by decide)) rfl [(.ref b), (.int (0 : Int32)), (.int (1 : Int32))] rfl (lenOf pd_4 rfl) rfl (Nat.le_of_eq rfl) (by decide) (by decide) (fun _ _ _ _ => trivial) d_jdk_52m16_23 rfl ?_
    intro v116 T116 h116 L116 q116 D116
    obtain ⟨t116, k116, rfl, g116, N116, E116, V116⟩ := q116
    have NF116 := Fr.app NF115 N116
    show Go p e below _ (T116.setTop (mkF m 26 #[.val (.ref b), .val (.int (0 : Int32)), .val (.int (1 : Int32)), .val (.ref a114), .val (.int (0 : Int32)), .unset] [(.ref t116)]))
    refine g_astore D116 28 #[.val (.ref b), .val (.int (0 : Int32)), .val (.int (1 : Int32)), .val (.ref a114), .val (.int (0 : Int32)), .val (.ref t116)] d_jdk_52m16_26 rfl rfl rfl ?_
    refine g_aload D116 30 d_jdk_52m16_28 rfl rfl rfl ?_
    refine g_iload D116 32 d_jdk_52m16_30 rfl rfl ?_
    refine g_callSp D116 35 (hw _ w_113) (hw _ w_114) (hw _ w_61) (hw _ w_115) (by decide) ((cGet l Z a0 hw [] t116 k116 (StrChars.Road.wideBytes [c0]) (2 : Int32) (0 : Int32) (0 : Int32) c0 h116 n0 (Nat.le_trans (Nat.le_trans (Nat.le_trans Z0 E114.1) K115.1) E116.1) (((OLD.ext E114).keep K115 (allS (Nat.le_trans Z0 (Nat.le_of_eq g114.symm)) all0)).ext E116) SA SH SL V116 (by decide) ⟨by decide, by decide⟩ ⟨by decide, by decide⟩ rfl rfl H0).back D116 0 (hw _ w_115) (hw _ w_61) (by decide) (by decide)) rfl [(.ref t116), (.int (0 : Int32))] rfl (lenOf pd_5 rfl) rfl (Nat.le_of_eq rfl) (by decide) (by decide) d_jdk_52m16_32 rfl ?_
    intro v117 T117 q117 D117
    subst q117
    show Go p e below _ (T117.setTop (mkF m 35 #[.val (.ref b), .val (.int (0 : Int32)), .val (.int (1 : Int32)), .val (.ref a114), .val (.int (0 : Int32)), .val (.ref t116)] [(.int c0)]))
    refine g_sipush D117 38 (255 : Int32) d_jdk_52m16_35 rfl rfl ?_
    refine g_icmpY D117 54 d_jdk_52m16_38 (tlt q0).2.2.1 (by decide) (by decide) ?_
    refine g_aload D117 56 d_jdk_52m16_54 rfl rfl rfl ?_
    exact r_A D117 hret rfl rfl hlk d_jdk_52m16_56 ⟨t116, k116, 1, _, _, rfl, (Nat.le_trans (Nat.le_trans (Nat.le_trans (Nat.le_refl _) E114.1) K115.1) g116), NF116, Keep.toExt ((((Keep.refl _ []).ext E114).trans K115 (allS (Or.inr (Nat.le_trans (Nat.le_refl _) (Nat.le_of_eq g114.symm))) all0)).ext E116), V116, Or.inr ⟨rfl, rfl, rfl, c0, List.mem_of_getElem? (i := 0) rfl, q0⟩⟩ (by decide) (by decide)
  · show Go p e below _ (T115.setTop (mkF m 12 #[.val (.ref b), .val (.int (0 : Int32)), .val (.int (1 : Int32)), .val (.ref a114), .unset, .unset] [(.int (1 : Int32))]))
    refine g_istore D115 14 #[.val (.ref b), .val (.int (0 : Int32)), .val (.int (1 : Int32)), .val (.ref a114), .val (.int (1 : Int32)), .unset] d_jdk_52m16_12 rfl rfl ?_
    refine g_iload D115 16 d_jdk_52m16_14 rfl rfl ?_
    refine g_iloadN D115 17 d_jdk_52m16_16 rfl rfl ?_
    refine g_icmpY D115 57 d_jdk_52m16_17 (by decide) (by decide) (by decide) ?_
    refine g_aloadN D115 58 d_jdk_52m16_57 rfl rfl rfl ?_
    exact r_A D115 hret rfl rfl hlk d_jdk_52m16_58 ⟨a114, k114, 0, _, _, rfl, (Nat.le_trans (Nat.le_refl _) (Nat.le_of_eq g114.symm)), NF115, Keep.toExt (((Keep.refl _ []).ext E114).trans K115 (allS (Or.inr (Nat.le_trans (Nat.le_refl _) (Nat.le_of_eq g114.symm))) all0)), V115, Or.inl ⟨rfl, rfl, rfl, (u8_cons q0 u8_nil)⟩⟩ (by decide) (by decide)
theorem cCod_1_0 (l : Launch) (Z : State) (a0 : Array Value) (hw : tHW Z a0) (ws : List Jvm.Cond) (t : Addr) (kb : ClassId) (vs : List Value) (h0 : Heap) (n0 : Nat) (Z0 : n0 ≤ h0.size) (V_t : Arv Z h0 t kb .byte (1 : Int32) vs (.int (0 : Int32))) :
    Con l (⟨"java/lang/StringUTF16", "coderFromArrayLen", "([BI)B"⟩ : MethodName) jdk_52_method_15_code 2 (some .byte) ws ({ frames := 0, cells := 0, slots := 0, locals := 0 } : Room) Z #[(.ref t), (.int (1 : Int32))] h0 (fun v h L => v = some (.int (0 : Int32)) ∧ L = [] ∧ h = h0) 0 0 := by
  refine enter (plainFor_of_name pn_0) ?_
  intro p e s m below meth c s₁ hnm hret hlk D0
  rw [ef_cCod_1_0 m t]
  refine g_iloadN D0 1 d_jdk_52m15_0 rfl rfl ?_
  refine g_aloadN D0 2 d_jdk_52m15_1 rfl rfl rfl ?_
  refine g_alen D0 3 V_t d_jdk_52m15_2 rfl ?_
  refine g_isub D0 4 d_jdk_52m15_3 rfl ?_
  rw [show ((1 : Int32) - (1 : Int32)) = (0 : Int32) from by decide]
  refine g_bipush D0 6 (31 : Int32) d_jdk_52m15_4 rfl rfl ?_
  refine g_iushr D0 7 d_jdk_52m15_6 rfl ?_
  rw [show (XT.ushr (0 : Int32) (31 : Int32)) = (0 : Int32) from by decide]
  refine g_i2b D0 8 d_jdk_52m15_7 rfl ?_
  rw [show ((0 : Int32).toInt8.toInt32) = (0 : Int32) from by decide]
  exact r_N D0 hret (by simp) hlk d_jdk_52m15_8 ⟨(by decide : some (Value.int (nar .byte (0 : Int32))) = some (.int (0 : Int32))), rfl, rfl⟩ (by decide) (by decide)
theorem cCod_1_1 (l : Launch) (Z : State) (a0 : Array Value) (hw : tHW Z a0) (ws : List Jvm.Cond) (t : Addr) (kb : ClassId) (vs : List Value) (h0 : Heap) (n0 : Nat) (Z0 : n0 ≤ h0.size) (V_t : Arv Z h0 t kb .byte (2 : Int32) vs (.int (0 : Int32))) :
    Con l (⟨"java/lang/StringUTF16", "coderFromArrayLen", "([BI)B"⟩ : MethodName) jdk_52_method_15_code 2 (some .byte) ws ({ frames := 0, cells := 0, slots := 0, locals := 0 } : Room) Z #[(.ref t), (.int (1 : Int32))] h0 (fun v h L => v = some (.int (1 : Int32)) ∧ L = [] ∧ h = h0) 0 0 := by
  refine enter (plainFor_of_name pn_0) ?_
  intro p e s m below meth c s₁ hnm hret hlk D0
  rw [ef_cCod_1_1 m t]
  refine g_iloadN D0 1 d_jdk_52m15_0 rfl rfl ?_
  refine g_aloadN D0 2 d_jdk_52m15_1 rfl rfl rfl ?_
  refine g_alen D0 3 V_t d_jdk_52m15_2 rfl ?_
  refine g_isub D0 4 d_jdk_52m15_3 rfl ?_
  rw [show ((1 : Int32) - (2 : Int32)) = (-1 : Int32) from by decide]
  refine g_bipush D0 6 (31 : Int32) d_jdk_52m15_4 rfl rfl ?_
  refine g_iushr D0 7 d_jdk_52m15_6 rfl ?_
  rw [show (XT.ushr (-1 : Int32) (31 : Int32)) = (1 : Int32) from by decide]
  refine g_i2b D0 8 d_jdk_52m15_7 rfl ?_
  rw [show ((1 : Int32).toInt8.toInt32) = (1 : Int32) from by decide]
  exact r_N D0 hret (by simp) hlk d_jdk_52m15_8 ⟨(by decide : some (Value.int (nar .byte (1 : Int32))) = some (.int (1 : Int32))), rfl, rfl⟩ (by decide) (by decide)
def Q_cN4_1 (Z : State) (x b : Addr) (kc : ClassId) (zc : Int32) (c0 : Int32) (h0 : Heap) (n0 : Nat) : Option Value → Heap → List Loc → Prop := (fun v h L => v = none ∧ Fr n0 L ∧ Keep h0 h [x] ∧ TS Z h x [c0])
theorem cN4_1 (l : Launch) (Z : State) (a0 : Array Value) (hw : tHW Z a0) (ws : List Jvm.Cond) (x b : Addr) (kc : ClassId) (zc : Int32) (c0 : Int32) (h0 : Heap) (n0 : Nat) (Z0 : n0 ≤ h0.size) (OLD : Old Z n0 h0) (SA : tSA Z) (SH : tSH Z) (SL : tSL Z) (CS : tCS Z zc) (hzc : ¬ zc = 0) (E_x : Exa Z h0 x "java/lang/String") (F_v : Fld Z h0 x "java/lang/String" "value" "[B" .null) (F_c : Fld Z h0 x "java/lang/String" "coder" "B" (.int (0 : Int32))) (gx : n0 ≤ x) (V_b : Arv Z h0 b kc .char (1 : Int32) [(.int c0)] (.int (0 : Int32))) (H0 : C16 c0) :
    Con l (⟨"java/lang/String", "<init>", "([CIILjava/lang/Void;)V"⟩ : MethodName) jdk_42_method_149_code 6 none ws ({ frames := 4, cells := 2, slots := 3, locals := 57 } : Room) Z #[(.ref x), (.ref b), (.int (0 : Int32)), (.int (1 : Int32)), .null] h0 (Q_cN4_1 Z x b kc zc c0 h0 n0) 2 3 := by
  refine enter (plainFor_of_name pn_1) ?_
  intro p e s m below meth c s₁ hnm hret hlk D0
  rw [ef_cN4_1 m x b]
  refine g_aloadN D0 1 d_jdk_42m149_0 rfl rfl rfl ?_
  refine g_initO D0 4 (hw _ w_17) (hw _ w_18) (hw _ w_19) rfl d_jdk_42m149_1 (by decide) (W := 0) (Nat.le_of_eq rfl) (by decide) rfl ?_
  intro T118 D118
  refine g_iloadN D118 5 d_jdk_42m149_4 rfl rfl ?_
  refine g_ifY D118 27 d_jdk_42m149_5 (by decide) (by decide) (by decide) ?_
  refine g_getS D118 30 (hw _ w_58) Via.refl (CS.ext OLD.2) d_jdk_42m149_27 rfl ?_
  intro T119 D119
  refine g_ifN D119 33 d_jdk_42m149_30 (feq hzc).1 rfl ?_
  refine g_aloadN D119 34 d_jdk_42m149_33 rfl rfl rfl ?_
  refine g_iloadN D119 35 d_jdk_42m149_34 rfl rfl ?_
  refine g_iloadN D119 36 d_jdk_42m149_35 rfl rfl ?_
  refine g_callS D119 39 (hw _ w_59) (hw _ w_60) (hw _ w_61) (hw _ w_62) (by decide) ((cC3_1 l Z a0 hw [] b kc c0 h0 n0 Z0 OLD SA SH SL V_b H0).back D119 0 (hw _ w_62) (hw _ w_61) (by decide) (by decide)) rfl [(.ref b), (.int (0 : Int32)), (.int (1 : Int32))] rfl (lenOf pd_4 rfl) rfl (Nat.le_of_eq rfl) (by decide) (by decide) (fun _ _ _ _ => trivial) d_jdk_42m149_36 rfl ?_
  intro v120 T120 h120 L120 q120 D120
  obtain ⟨t120, k120, cd120, N2120, vs120, rfl, g120, N120, E120, V120, hc120⟩ := q120
  have NF120 := Fr.app (Fr.nil n0) N120
  show Go p e below _ (T120.setTop (mkF m 39 #[.val (.ref x), .val (.ref b), .val (.int (0 : Int32)), .val (.int (1 : Int32)), .val .null, .unset] [(.ref t120)]))
  refine g_astore D120 41 #[.val (.ref x), .val (.ref b), .val (.int (0 : Int32)), .val (.int (1 : Int32)), .val .null, .val (.ref t120)] d_jdk_42m149_39 rfl rfl rfl ?_
  refine g_aloadN D120 42 d_jdk_42m149_41 rfl rfl rfl ?_
  refine g_aload D120 44 d_jdk_42m149_42 rfl rfl rfl ?_
  refine g_iloadN D120 45 d_jdk_42m149_44 rfl rfl ?_
  have hk := hc120
  rcases hc120 with ⟨rfl, rfl, rfl, -⟩ | ⟨rfl, rfl, rfl, -⟩
  · refine g_callSp D120 48 (hw _ w_66) (hw _ w_67) (hw _ w_61) (hw _ w_68) (by decide) ((cCod_1_0 l Z a0 hw [] t120 k120 _ h120 n0 (Nat.le_trans Z0 E120.1) V120).back D120 1 (hw _ w_68) (hw _ w_61) (by decide) (by decide)) rfl [(.ref t120), (.int (1 : Int32))] rfl (lenOf pd_6 rfl) rfl (Nat.le_of_eq rfl) (by decide) (by decide) d_jdk_42m149_45 rfl ?_
    intro v121 T121 q121 D121
    subst q121
    show Go p e below _ (T121.setTop (mkF m 48 #[.val (.ref x), .val (.ref b), .val (.int (0 : Int32)), .val (.int (1 : Int32)), .val .null, .val (.ref t120)] [(.int (0 : Int32)), (.ref x)]))
    refine g_putF D121 51 (hw _ w_27) Via.refl (F_c.ext E120) (E_x.ext E120) (Or.inr ⟨(hw _ w_23), rfl, hnm⟩) (hw _ w_7) (ty := .byte) (by decide) rfl rfl (fun _ _ => trivial) d_jdk_42m149_48 rfl ?_
    intro T122 h122 W122 D122
    have N122 := Fr.snoc D122.st NF120 gx
    have F122 := (F_c.ext E120).same W122
    refine g_aloadN D122 52 d_jdk_42m149_51 rfl rfl rfl ?_
    refine g_aload D122 54 d_jdk_42m149_52 rfl rfl rfl ?_
    refine g_putF D122 57 (hw _ w_26) Via.refl ((F_v.ext E120).other W122 (Or.inr (slot_ne (Or.inr (hw _ w_22)) (Or.inr (hw _ w_23)) (by decide) (t := (.array .byte)) (t' := .byte) (by decide) (by decide)))) ((E_x.ext E120).wr W122) (Or.inr ⟨(hw _ w_22), rfl, hnm⟩) (hw _ w_7) (ty := (.array .byte)) (by decide) rfl rfl (fun _ _ => trivial) d_jdk_42m149_54 rfl ?_
    intro T123 h123 W123 D123
    have N123 := Fr.snoc D123.st N122 gx
    have F123 := ((F_v.ext E120).other W122 (Or.inr (slot_ne (Or.inr (hw _ w_22)) (Or.inr (hw _ w_23)) (by decide) (t := (.array .byte)) (t' := .byte) (by decide) (by decide)))).same W123
    exact r_V D123 hret hlk d_jdk_42m149_57 ⟨rfl, N123, ((((Keep.refl _ [x]).ext E120).wr W122 (Or.inl (List.mem_of_getElem? (i := 0) rfl))).wr W123 (Or.inl (List.mem_of_getElem? (i := 0) rfl))), t120, k120, (0 : Int32), _, _, (((E_x.ext E120).wr W122).wr W123), (F122.other W123 (Or.inr (slot_ne (Or.inr (hw _ w_23)) (Or.inr (hw _ w_22)) (by decide) (t := .byte) (t' := (.array .byte)) (by decide) (by decide)))), F123, ((V120.other W122 (Ne.symm (Nat.ne_of_lt (Nat.lt_of_lt_of_le E_x.lt g120)))).other W123 (Ne.symm (Nat.ne_of_lt (Nat.lt_of_lt_of_le E_x.lt g120)))), hk, (c16_cons H0 c16_nil), Nat.le_of_ble_eq_true rfl⟩ (by decide) (by decide)
  · refine g_callSp D120 48 (hw _ w_66) (hw _ w_67) (hw _ w_61) (hw _ w_68) (by decide) ((cCod_1_1 l Z a0 hw [] t120 k120 _ h120 n0 (Nat.le_trans Z0 E120.1) V120).back D120 1 (hw _ w_68) (hw _ w_61) (by decide) (by decide)) rfl [(.ref t120), (.int (1 : Int32))] rfl (lenOf pd_6 rfl) rfl (Nat.le_of_eq rfl) (by decide) (by decide) d_jdk_42m149_45 rfl ?_
    intro v124 T124 q124 D124
    subst q124
    show Go p e below _ (T124.setTop (mkF m 48 #[.val (.ref x), .val (.ref b), .val (.int (0 : Int32)), .val (.int (1 : Int32)), .val .null, .val (.ref t120)] [(.int (1 : Int32)), (.ref x)]))
    refine g_putF D124 51 (hw _ w_27) Via.refl (F_c.ext E120) (E_x.ext E120) (Or.inr ⟨(hw _ w_23), rfl, hnm⟩) (hw _ w_7) (ty := .byte) (by decide) rfl rfl (fun _ _ => trivial) d_jdk_42m149_48 rfl ?_
    intro T125 h125 W125 D125
    have N125 := Fr.snoc D125.st NF120 gx
    have F125 := (F_c.ext E120).same W125
    refine g_aloadN D125 52 d_jdk_42m149_51 rfl rfl rfl ?_
    refine g_aload D125 54 d_jdk_42m149_52 rfl rfl rfl ?_
    refine g_putF D125 57 (hw _ w_26) Via.refl ((F_v.ext E120).other W125 (Or.inr (slot_ne (Or.inr (hw _ w_22)) (Or.inr (hw _ w_23)) (by decide) (t := (.array .byte)) (t' := .byte) (by decide) (by decide)))) ((E_x.ext E120).wr W125) (Or.inr ⟨(hw _ w_22), rfl, hnm⟩) (hw _ w_7) (ty := (.array .byte)) (by decide) rfl rfl (fun _ _ => trivial) d_jdk_42m149_54 rfl ?_
    intro T126 h126 W126 D126
    have N126 := Fr.snoc D126.st N125 gx
    have F126 := ((F_v.ext E120).other W125 (Or.inr (slot_ne (Or.inr (hw _ w_22)) (Or.inr (hw _ w_23)) (by decide) (t := (.array .byte)) (t' := .byte) (by decide) (by decide)))).same W126
    exact r_V D126 hret hlk d_jdk_42m149_57 ⟨rfl, N126, ((((Keep.refl _ [x]).ext E120).wr W125 (Or.inl (List.mem_of_getElem? (i := 0) rfl))).wr W126 (Or.inl (List.mem_of_getElem? (i := 0) rfl))), t120, k120, (1 : Int32), _, _, (((E_x.ext E120).wr W125).wr W126), (F125.other W126 (Or.inr (slot_ne (Or.inr (hw _ w_23)) (Or.inr (hw _ w_22)) (by decide) (t := .byte) (t' := (.array .byte)) (by decide) (by decide)))), F126, ((V120.other W125 (Ne.symm (Nat.ne_of_lt (Nat.lt_of_lt_of_le E_x.lt g120)))).other W126 (Ne.symm (Nat.ne_of_lt (Nat.lt_of_lt_of_le E_x.lt g120)))), hk, (c16_cons H0 c16_nil), Nat.le_of_ble_eq_true rfl⟩ (by decide) (by decide)
def Q_cN1_1 (Z : State) (x b : Addr) (kc : ClassId) (zc : Int32) (c0 : Int32) (h0 : Heap) (n0 : Nat) : Option Value → Heap → List Loc → Prop := (fun v h L => v = none ∧ Fr n0 L ∧ Keep h0 h [x] ∧ TS Z h x [c0])
theorem cN1_1 (l : Launch) (Z : State) (a0 : Array Value) (hw : tHW Z a0) (ws : List Jvm.Cond) (x b : Addr) (kc : ClassId) (zc : Int32) (c0 : Int32) (h0 : Heap) (n0 : Nat) (Z0 : n0 ≤ h0.size) (OLD : Old Z n0 h0) (SA : tSA Z) (SH : tSH Z) (SL : tSL Z) (CS : tCS Z zc) (hzc : ¬ zc = 0) (E_x : Exa Z h0 x "java/lang/String") (F_v : Fld Z h0 x "java/lang/String" "value" "[B" .null) (F_c : Fld Z h0 x "java/lang/String" "coder" "B" (.int (0 : Int32))) (gx : n0 ≤ x) (V_b : Arv Z h0 b kc .char (1 : Int32) [(.int c0)] (.int (0 : Int32))) (H0 : C16 c0) :
    Con l (⟨"java/lang/String", "<init>", "([C)V"⟩ : MethodName) jdk_42_method_3_code 2 none ws ({ frames := 5, cells := 2, slots := 3, locals := 74 } : Room) Z #[(.ref x), (.ref b)] h0 (Q_cN1_1 Z x b kc zc c0 h0 n0) 2 3 := by
  refine enter (plainFor_of_name pn_1) ?_
  intro p e s m below meth c s₁ hnm hret hlk D0
  rw [ef_cN1_1 m x b]
  refine g_aloadN D0 1 d_jdk_42m3_0 rfl rfl rfl ?_
  refine g_aloadN D0 2 d_jdk_42m3_1 rfl rfl rfl ?_
  refine g_iconst D0 3 (0 : Int32) d_jdk_42m3_2 rfl rfl ?_
  refine g_aloadN D0 4 d_jdk_42m3_3 rfl rfl rfl ?_
  refine g_alen D0 5 V_b d_jdk_42m3_4 rfl ?_
  refine g_aconst D0 6 d_jdk_42m3_5 rfl ?_
  refine g_callN D0 9 rfl (hw _ w_13) (hw _ w_14) (hw _ w_16) (by decide) ((cN4_1 l Z a0 hw [] x b kc zc c0 h0 n0 Z0 OLD SA SH SL CS hzc E_x F_v F_c gx V_b H0).back D0 0 (hw _ w_16) (hw _ w_8) (by decide) (by decide)) rfl [(.ref b), (.int (0 : Int32)), (.int (1 : Int32)), .null] rfl (lenOf pd_7 rfl) rfl (Nat.le_of_eq rfl) (by decide) (by decide) (fun _ _ _ _ => trivial) d_jdk_42m3_6 rfl ?_
  intro v127 T127 h127 L127 q127 D127
  obtain ⟨rfl, N1, K1, X1⟩ := q127
  rw [List.nil_append] at D127
  show Go p e below _ (T127.setTop (mkF m 9 #[.val (.ref x), .val (.ref b)] []))
  exact r_V D127 hret hlk d_jdk_42m3_9 ⟨rfl, N1, K1, X1⟩ (by decide) (by decide)
theorem cNL_2 (l : Launch) (Z : State) (a0 : Array Value) (hw : tHW Z a0) (ws : List Jvm.Cond)  (h0 : Heap) (n0 : Nat) (Z0 : n0 ≤ h0.size)  :
    Con l (⟨"java/lang/StringUTF16", "newBytesLength", "(I)I"⟩ : MethodName) jdk_52_method_3_code 1 (some .int) ws ({ frames := 0, cells := 0, slots := 0, locals := 0 } : Room) Z #[(.int (2 : Int32))] h0 (fun v h L => v = some (.int (4 : Int32)) ∧ L = [] ∧ h = h0) 0 0 := by
  refine enter (plainFor_of_name pn_0) ?_
  intro p e s m below meth c s₁ hnm hret hlk D0
  rw [ef_cNL_2 m]
  refine g_iloadN D0 1 d_jdk_52m3_0 rfl rfl ?_
  refine g_ifY D0 12 d_jdk_52m3_1 (by decide) (by decide) (by decide) ?_
  refine g_iloadN D0 13 d_jdk_52m3_12 rfl rfl ?_
  refine g_ldcI D0 15 (hw _ w_106) d_jdk_52m3_13 rfl ?_
  refine g_icmpY D0 55 d_jdk_52m3_15 (by decide) (by decide) (by decide) ?_
  refine g_iloadN D0 56 d_jdk_52m3_55 rfl rfl ?_
  refine g_iconst D0 57 (1 : Int32) d_jdk_52m3_56 rfl rfl ?_
  refine g_ishl D0 58 d_jdk_52m3_57 rfl ?_
  rw [show ((2 : Int32) <<< ((1 : Int32) &&& 31)) = (4 : Int32) from by decide]
  exact r_I D0 hret hlk d_jdk_52m3_58 ⟨rfl, rfl, rfl⟩ (by decide) (by decide)
def Q_cNB_2 (Z : State)  (h0 : Heap) (n0 : Nat) : Option Value → Heap → List Loc → Prop := (fun v h L => ∃ a k, v = some (.ref a) ∧ h0.size ≤ a ∧ Fr n0 L ∧ Ext h0 h ∧ Arv Z h a k .byte (4 : Int32) [(.int (0 : Int32)), (.int (0 : Int32)), (.int (0 : Int32)), (.int (0 : Int32))] (.int (0 : Int32)))
theorem cNB_2 (l : Launch) (Z : State) (a0 : Array Value) (hw : tHW Z a0) (ws : List Jvm.Cond)  (h0 : Heap) (n0 : Nat) (Z0 : n0 ≤ h0.size)  :
    Con l (⟨"java/lang/StringUTF16", "newBytesFor", "(I)[B"⟩ : MethodName) jdk_52_method_2_code 1 (some (.array .byte)) ws ({ frames := 1, cells := 1, slots := 4, locals := 12 } : Room) Z #[(.int (2 : Int32))] h0 (Q_cNB_2 Z  h0 n0) 1 4 := by
  refine enter (plainFor_of_name pn_0) ?_
  intro p e s m below meth c s₁ hnm hret hlk D0
  rw [ef_cNB_2 m]
  refine g_iloadN D0 1 d_jdk_52m2_0 rfl rfl ?_
  refine g_callSp D0 4 (hw _ w_103) (hw _ w_104) (hw _ w_61) (hw _ w_105) (by decide) ((cNL_2 l Z a0 hw [] h0 n0 Z0).back D0 0 (hw _ w_105) (hw _ w_61) (by decide) (by decide)) rfl [(.int (2 : Int32))] rfl (lenOf pd_0 rfl) rfl (Nat.le_of_eq rfl) (by decide) (by decide) d_jdk_52m2_1 rfl ?_
  intro v128 T128 q128 D128
  subst q128
  show Go p e below _ (T128.setTop (mkF m 4 #[.val (.int (2 : Int32))] [(.int (4 : Int32))]))
  refine g_newP D128 6 (aty := .byte) (hw _ w_21) d_jdk_52m2_4 (by decide) (cap := 4) (by decide) (by decide) (by decide) (by decide) (fun _ _ => trivial) rfl ?_
  intro T129 h129 a129 k129 g129 E129 V129 D129
  have V129' : Arv Z h129 a129 k129 .byte (4 : Int32) [(.int (0 : Int32)), (.int (0 : Int32)), (.int (0 : Int32)), (.int (0 : Int32))] (.int (0 : Int32)) := V129.pad (pad_rep [] (.int (0 : Int32)) 4)
  exact r_A D129 hret rfl rfl hlk d_jdk_52m2_6 ⟨a129, _, rfl, (Nat.le_trans (Nat.le_refl _) (Nat.le_of_eq g129.symm)), (Fr.nil n0), Keep.toExt ((Keep.refl _ []).ext E129), V129'⟩ (by decide) (by decide)
def Q_cPut_2_0 (Z : State) (t : Addr) (kb : ClassId) (ch : Int32) (v0 v1 v2 v3 : Value) (h0 : Heap) (n0 : Nat) : Option Value → Heap → List Loc → Prop := (fun v h L => v = none ∧ Fr n0 L ∧ Keep h0 h [t] ∧ Arv Z h t kb .byte (4 : Int32) [(.int (StrChars.lo8 ch)), (.int (StrChars.hi8 ch)), v2, v3] (.int (0 : Int32)))
theorem cPut_2_0 (l : Launch) (Z : State) (a0 : Array Value) (hw : tHW Z a0) (ws : List Jvm.Cond) (t : Addr) (kb : ClassId) (ch : Int32) (v0 v1 v2 v3 : Value) (h0 : Heap) (n0 : Nat) (Z0 : n0 ≤ h0.size) (OLD : Old Z n0 h0) (SA : tSA Z) (SH : tSH Z) (SL : tSL Z) (V_t : Arv Z h0 t kb .byte (4 : Int32) [v0, v1, v2, v3] (.int (0 : Int32))) (gt : n0 ≤ t) :
    Con l (⟨"java/lang/StringUTF16", "putChar", "([BII)V"⟩ : MethodName) jdk_52_method_4_code 3 none ws ({ frames := 0, cells := 0, slots := 0, locals := 0 } : Room) Z #[(.ref t), (.int (0 : Int32)), (.int ch)] h0 (Q_cPut_2_0 Z t kb ch v0 v1 v2 v3 h0 n0) 0 0 := by
  refine enter (plainFor_of_name pn_0) ?_
  intro p e s m below meth c s₁ hnm hret hlk D0
  rw [ef_cPut_2_0 m t ch]
  refine g_getS D0 3 (hw _ w_110) Via.refl (SA.ext OLD.2) d_jdk_52m4_0 rfl ?_
  intro T130 D130
  refine g_ifY D130 28 d_jdk_52m4_3 (by decide) (by decide) (by decide) ?_
  refine g_iloadN D130 29 d_jdk_52m4_28 rfl rfl ?_
  refine g_iconst D130 30 (1 : Int32) d_jdk_52m4_29 rfl rfl ?_
  refine g_ishl D130 31 d_jdk_52m4_30 rfl ?_
  rw [show ((0 : Int32) <<< ((1 : Int32) &&& 31)) = (0 : Int32) from by decide]
  refine g_istoreN D130 32 #[.val (.ref t), .val (.int (0 : Int32)), .val (.int ch)] d_jdk_52m4_31 rfl rfl ?_
  refine g_aloadN D130 33 d_jdk_52m4_32 rfl rfl rfl ?_
  refine g_iloadN D130 34 d_jdk_52m4_33 rfl rfl ?_
  refine g_iinc D130 37 (1 : Int32) #[.val (.ref t), .val (.int ((0 : Int32) + (1 : Int32))), .val (.int ch)] d_jdk_52m4_34 rfl rfl rfl rfl ?_
  rw [show ((0 : Int32) + (1 : Int32)) = (1 : Int32) from by decide]
  refine g_iloadN D130 38 d_jdk_52m4_37 rfl rfl ?_
  refine g_getS D130 41 (hw _ w_111) Via.refl (SH.ext OLD.2) d_jdk_52m4_38 rfl ?_
  intro T131 D131
  refine g_ishr D131 42 d_jdk_52m4_41 rfl ?_
  refine g_i2b D131 43 d_jdk_52m4_42 rfl ?_
  refine g_bastore D131 44 V_t ⟨by decide, by decide⟩ 0 (by decide) (Nat.le_of_ble_eq_true rfl) (fun _ _ => trivial) d_jdk_52m4_43 rfl ?_
  intro T132 h132 W132 V132 D132
  rw [nb_lo ch] at V132
  replace V132 : Arv Z h132 t kb .byte (4 : Int32) [(.int (StrChars.lo8 ch)), v1, v2, v3] (.int (0 : Int32)) := V132
  have N132 := Fr.snoc D132.st (Fr.nil n0) gt
  refine g_aloadN D132 45 d_jdk_52m4_44 rfl rfl rfl ?_
  refine g_iloadN D132 46 d_jdk_52m4_45 rfl rfl ?_
  refine g_iloadN D132 47 d_jdk_52m4_46 rfl rfl ?_
  refine g_getS D132 50 (hw _ w_112) Via.refl (SL.ext (OLD.wr W132 gt).2) d_jdk_52m4_47 rfl ?_
  intro T133 D133
  refine g_ishr D133 51 d_jdk_52m4_50 rfl ?_
  refine g_i2b D133 52 d_jdk_52m4_51 rfl ?_
  refine g_bastore D133 53 V132 ⟨by decide, by decide⟩ 1 (by decide) (Nat.le_of_ble_eq_true rfl) (fun _ _ => trivial) d_jdk_52m4_52 rfl ?_
  intro T134 h134 W134 V134 D134
  rw [nb_hi ch] at V134
  replace V134 : Arv Z h134 t kb .byte (4 : Int32) [(.int (StrChars.lo8 ch)), (.int (StrChars.hi8 ch)), v2, v3] (.int (0 : Int32)) := V134
  have N134 := Fr.snoc D134.st N132 gt
  exact r_V D134 hret hlk d_jdk_52m4_53 ⟨rfl, N134, (((Keep.refl _ [t]).wr W132 (Or.inl (List.mem_of_getElem? (i := 0) rfl))).wr W134 (Or.inl (List.mem_of_getElem? (i := 0) rfl))), V134⟩ (by decide) (by decide)
def Q_cPut_2_1 (Z : State) (t : Addr) (kb : ClassId) (ch : Int32) (v0 v1 v2 v3 : Value) (h0 : Heap) (n0 : Nat) : Option Value → Heap → List Loc → Prop := (fun v h L => v = none ∧ Fr n0 L ∧ Keep h0 h [t] ∧ Arv Z h t kb .byte (4 : Int32) [v0, v1, (.int (StrChars.lo8 ch)), (.int (StrChars.hi8 ch))] (.int (0 : Int32)))
theorem cPut_2_1 (l : Launch) (Z : State) (a0 : Array Value) (hw : tHW Z a0) (ws : List Jvm.Cond) (t : Addr) (kb : ClassId) (ch : Int32) (v0 v1 v2 v3 : Value) (h0 : Heap) (n0 : Nat) (Z0 : n0 ≤ h0.size) (OLD : Old Z n0 h0) (SA : tSA Z) (SH : tSH Z) (SL : tSL Z) (V_t : Arv Z h0 t kb .byte (4 : Int32) [v0, v1, v2, v3] (.int (0 : Int32))) (gt : n0 ≤ t) :
    Con l (⟨"java/lang/StringUTF16", "putChar", "([BII)V"⟩ : MethodName) jdk_52_method_4_code 3 none ws ({ frames := 0, cells := 0, slots := 0, locals := 0 } : Room) Z #[(.ref t), (.int (1 : Int32)), (.int ch)] h0 (Q_cPut_2_1 Z t kb ch v0 v1 v2 v3 h0 n0) 0 0 := by
  refine enter (plainFor_of_name pn_0) ?_
  intro p e s m below meth c s₁ hnm hret hlk D0
  rw [ef_cPut_2_1 m t ch]
  refine g_getS D0 3 (hw _ w_110) Via.refl (SA.ext OLD.2) d_jdk_52m4_0 rfl ?_
  intro T135 D135
  refine g_ifY D135 28 d_jdk_52m4_3 (by decide) (by decide) (by decide) ?_
  refine g_iloadN D135 29 d_jdk_52m4_28 rfl rfl ?_
  refine g_iconst D135 30 (1 : Int32) d_jdk_52m4_29 rfl rfl ?_
  refine g_ishl D135 31 d_jdk_52m4_30 rfl ?_
  rw [show ((1 : Int32) <<< ((1 : Int32) &&& 31)) = (2 : Int32) from by decide]
  refine g_istoreN D135 32 #[.val (.ref t), .val (.int (2 : Int32)), .val (.int ch)] d_jdk_52m4_31 rfl rfl ?_
  refine g_aloadN D135 33 d_jdk_52m4_32 rfl rfl rfl ?_
  refine g_iloadN D135 34 d_jdk_52m4_33 rfl rfl ?_
  refine g_iinc D135 37 (1 : Int32) #[.val (.ref t), .val (.int ((2 : Int32) + (1 : Int32))), .val (.int ch)] d_jdk_52m4_34 rfl rfl rfl rfl ?_
  rw [show ((2 : Int32) + (1 : Int32)) = (3 : Int32) from by decide]
  refine g_iloadN D135 38 d_jdk_52m4_37 rfl rfl ?_
  refine g_getS D135 41 (hw _ w_111) Via.refl (SH.ext OLD.2) d_jdk_52m4_38 rfl ?_
  intro T136 D136
  refine g_ishr D136 42 d_jdk_52m4_41 rfl ?_
  refine g_i2b D136 43 d_jdk_52m4_42 rfl ?_
  refine g_bastore D136 44 V_t ⟨by decide, by decide⟩ 2 (by decide) (Nat.le_of_ble_eq_true rfl) (fun _ _ => trivial) d_jdk_52m4_43 rfl ?_
  intro T137 h137 W137 V137 D137
  rw [nb_lo ch] at V137
  replace V137 : Arv Z h137 t kb .byte (4 : Int32) [v0, v1, (.int (StrChars.lo8 ch)), v3] (.int (0 : Int32)) := V137
  have N137 := Fr.snoc D137.st (Fr.nil n0) gt
  refine g_aloadN D137 45 d_jdk_52m4_44 rfl rfl rfl ?_
  refine g_iloadN D137 46 d_jdk_52m4_45 rfl rfl ?_
  refine g_iloadN D137 47 d_jdk_52m4_46 rfl rfl ?_
  refine g_getS D137 50 (hw _ w_112) Via.refl (SL.ext (OLD.wr W137 gt).2) d_jdk_52m4_47 rfl ?_
  intro T138 D138
  refine g_ishr D138 51 d_jdk_52m4_50 rfl ?_
  refine g_i2b D138 52 d_jdk_52m4_51 rfl ?_
  refine g_bastore D138 53 V137 ⟨by decide, by decide⟩ 3 (by decide) (Nat.le_of_ble_eq_true rfl) (fun _ _ => trivial) d_jdk_52m4_52 rfl ?_
  intro T139 h139 W139 V139 D139
  rw [nb_hi ch] at V139
  replace V139 : Arv Z h139 t kb .byte (4 : Int32) [v0, v1, (.int (StrChars.lo8 ch)), (.int (StrChars.hi8 ch))] (.int (0 : Int32)) := V139
  have N139 := Fr.snoc D139.st N137 gt
  exact r_V D139 hret hlk d_jdk_52m4_53 ⟨rfl, N139, (((Keep.refl _ [t]).wr W137 (Or.inl (List.mem_of_getElem? (i := 0) rfl))).wr W139 (Or.inl (List.mem_of_getElem? (i := 0) rfl))), V139⟩ (by decide) (by decide)
def Q_cToB_2 (Z : State) (b : Addr) (kc : ClassId) (c0 c1 : Int32) (h0 : Heap) (n0 : Nat) : Option Value → Heap → List Loc → Prop := (fun v h L => ∃ t k, v = some (.ref t) ∧ h0.size ≤ t ∧ Fr n0 L ∧ Ext h0 h ∧ Arv Z h t k .byte (4 : Int32) (StrChars.Road.wideBytes [c0, c1]) (.int (0 : Int32)))
theorem cToB_2 (l : Launch) (Z : State) (a0 : Array Value) (hw : tHW Z a0) (ws : List Jvm.Cond) (b : Addr) (kc : ClassId) (c0 c1 : Int32) (h0 : Heap) (n0 : Nat) (Z0 : n0 ≤ h0.size) (OLD : Old Z n0 h0) (SA : tSA Z) (SH : tSH Z) (SL : tSL Z) (V_b : Arv Z h0 b kc .char (2 : Int32) [(.int c0), (.int c1)] (.int (0 : Int32))) :
    Con l (⟨"java/lang/StringUTF16", "toBytes", "([CII)[B"⟩ : MethodName) jdk_52_method_14_code 5 (some (.array .byte)) ws ({ frames := 2, cells := 1, slots := 4, locals := 24 } : Room) Z #[(.ref b), (.int (0 : Int32)), (.int (2 : Int32))] h0 (Q_cToB_2 Z b kc c0 c1 h0 n0) 1 4 := by
  refine enter (plainFor_of_name pn_0) ?_
  intro p e s m below meth c s₁ hnm hret hlk D0
  rw [ef_cToB_2 m b]
  refine g_iloadN D0 1 d_jdk_52m14_0 rfl rfl ?_
  refine g_callS D0 4 (hw _ w_100) (hw _ w_101) (hw _ w_61) (hw _ w_102) (by decide) ((cNB_2 l Z a0 hw [] h0 n0 Z0).back D0 0 (hw _ w_102) (hw _ w_61) (by decide) (by decide)) rfl [(.int (2 : Int32))] rfl (lenOf pd_1 rfl) rfl (Nat.le_of_eq rfl) (by decide) (by decide) (fun _ _ _ _ => trivial) d_jdk_52m14_1 rfl ?_
  intro v140 T140 h140 L140 q140 D140
  obtain ⟨t140, k140, rfl, g140, N140, E140, V140⟩ := q140
  have NF140 := Fr.app (Fr.nil n0) N140
  show Go p e below _ (T140.setTop (mkF m 4 #[.val (.ref b), .val (.int (0 : Int32)), .val (.int (2 : Int32)), .unset, .unset] [(.ref t140)]))
  refine g_astoreN D140 5 #[.val (.ref b), .val (.int (0 : Int32)), .val (.int (2 : Int32)), .val (.ref t140), .unset] d_jdk_52m14_4 rfl rfl rfl ?_
  refine g_iconst D140 6 (0 : Int32) d_jdk_52m14_5 rfl rfl ?_
  refine g_istore D140 8 #[.val (.ref b), .val (.int (0 : Int32)), .val (.int (2 : Int32)), .val (.ref t140), .val (.int (0 : Int32))] d_jdk_52m14_6 rfl rfl ?_
  refine g_iload D140 10 d_jdk_52m14_8 rfl rfl ?_
  refine g_iloadN D140 11 d_jdk_52m14_10 rfl rfl ?_
  refine g_icmpN D140 14 d_jdk_52m14_11 (by decide) rfl ?_
  refine g_aloadN D140 15 d_jdk_52m14_14 rfl rfl rfl ?_
  refine g_iload D140 17 d_jdk_52m14_15 rfl rfl ?_
  refine g_aloadN D140 18 d_jdk_52m14_17 rfl rfl rfl ?_
  refine g_iloadN D140 19 d_jdk_52m14_18 rfl rfl ?_
  refine g_caload D140 20 (V_b.ext E140) (v := (.int c0)) ⟨by decide, by decide⟩ rfl d_jdk_52m14_19 rfl ?_
  refine g_callS D140 23 (hw _ w_107) (hw _ w_108) (hw _ w_61) (hw _ w_109) (by decide) ((cPut_2_0 l Z a0 hw [] t140 k140 c0 (.int (0 : Int32)) (.int (0 : Int32)) (.int (0 : Int32)) (.int (0 : Int32)) h140 n0 (Nat.le_trans Z0 E140.1) (OLD.ext E140) SA SH SL V140 (Nat.le_trans Z0 g140)).back D140 0 (hw _ w_109) (hw _ w_61) (by decide) (by decide)) rfl [(.ref t140), (.int (0 : Int32)), (.int c0)] rfl (lenOf pd_2 rfl) rfl (Nat.le_of_eq rfl) (by decide) (by decide) (fun _ _ _ _ => trivial) d_jdk_52m14_20 rfl ?_
  intro v141 T141 h141 L141 q141 D141
  obtain ⟨rfl, N141, K141, V141⟩ := q141
  have NF141 := Fr.app NF140 N141
  show Go p e below _ (T141.setTop (mkF m 23 #[.val (.ref b), .val (.int (0 : Int32)), .val (.int (2 : Int32)), .val (.ref t140), .val (.int (0 : Int32))] []))
  refine g_iinc D141 26 (1 : Int32) #[.val (.ref b), .val (.int ((0 : Int32) + (1 : Int32))), .val (.int (2 : Int32)), .val (.ref t140), .val (.int (0 : Int32))] d_jdk_52m14_23 rfl rfl rfl rfl ?_
  rw [show ((0 : Int32) + (1 : Int32)) = (1 : Int32) from by decide]
  refine g_iinc D141 29 (1 : Int32) #[.val (.ref b), .val (.int (1 : Int32)), .val (.int (2 : Int32)), .val (.ref t140), .val (.int ((0 : Int32) + (1 : Int32)))] d_jdk_52m14_26 rfl rfl rfl rfl ?_
  rw [show ((0 : Int32) + (1 : Int32)) = (1 : Int32) from by decide]
  refine g_goto D141 8 d_jdk_52m14_29 (by decide) (by decide) ?_
  refine g_iload D141 10 d_jdk_52m14_8 rfl rfl ?_
  refine g_iloadN D141 11 d_jdk_52m14_10 rfl rfl ?_
  refine g_icmpN D141 14 d_jdk_52m14_11 (by decide) rfl ?_
  refine g_aloadN D141 15 d_jdk_52m14_14 rfl rfl rfl ?_
  refine g_iload D141 17 d_jdk_52m14_15 rfl rfl ?_
  refine g_aloadN D141 18 d_jdk_52m14_17 rfl rfl rfl ?_
  refine g_iloadN D141 19 d_jdk_52m14_18 rfl rfl ?_
  refine g_caload D141 20 ((V_b.ext E140).keep K141 (ninS (Nat.ne_of_lt (Nat.lt_of_lt_of_le V_b.lt g140)) nin0)) (v := (.int c1)) ⟨by decide, by decide⟩ rfl d_jdk_52m14_19 rfl ?_
  refine g_callS D141 23 (hw _ w_107) (hw _ w_108) (hw _ w_61) (hw _ w_109) (by decide) ((cPut_2_1 l Z a0 hw [] t140 k140 c1 (.int (StrChars.lo8 c0)) (.int (StrChars.hi8 c0)) (.int (0 : Int32)) (.int (0 : Int32)) h141 n0 (Nat.le_trans (Nat.le_trans Z0 E140.1) K141.1) ((OLD.ext E140).keep K141 (allS (Nat.le_trans Z0 g140) all0)) SA SH SL V141 (Nat.le_trans Z0 g140)).back D141 0 (hw _ w_109) (hw _ w_61) (by decide) (by decide)) rfl [(.ref t140), (.int (1 : Int32)), (.int c1)] rfl (lenOf pd_2 rfl) rfl (Nat.le_of_eq rfl) (by decide) (by decide) (fun _ _ _ _ => trivial) d_jdk_52m14_20 rfl ?_
  intro v142 T142 h142 L142 q142 D142
  obtain ⟨rfl, N142, K142, V142⟩ := q142
  have NF142 := Fr.app NF141 N142
  show Go p e below _ (T142.setTop (mkF m 23 #[.val (.ref b), .val (.int (1 : Int32)), .val (.int (2 : Int32)), .val (.ref t140), .val (.int (1 : Int32))] []))
  refine g_iinc D142 26 (1 : Int32) #[.val (.ref b), .val (.int ((1 : Int32) + (1 : Int32))), .val (.int (2 : Int32)), .val (.ref t140), .val (.int (1 : Int32))] d_jdk_52m14_23 rfl rfl rfl rfl ?_
  rw [show ((1 : Int32) + (1 : Int32)) = (2 : Int32) from by decide]
  refine g_iinc D142 29 (1 : Int32) #[.val (.ref b), .val (.int (2 : Int32)), .val (.int (2 : Int32)), .val (.ref t140), .val (.int ((1 : Int32) + (1 : Int32)))] d_jdk_52m14_26 rfl rfl rfl rfl ?_
  rw [show ((1 : Int32) + (1 : Int32)) = (2 : Int32) from by decide]
  refine g_goto D142 8 d_jdk_52m14_29 (by decide) (by decide) ?_
  refine g_iload D142 10 d_jdk_52m14_8 rfl rfl ?_
  refine g_iloadN D142 11 d_jdk_52m14_10 rfl rfl ?_
  refine g_icmpY D142 32 d_jdk_52m14_11 (by decide) (by decide) (by decide) ?_
  refine g_aloadN D142 33 d_jdk_52m14_32 rfl rfl rfl ?_
  exact r_A D142 hret rfl rfl hlk d_jdk_52m14_33 ⟨t140, k140, rfl, (Nat.le_trans (Nat.le_refl _) g140), NF142, Keep.toExt ((((Keep.refl _ []).ext E140).trans K141 (allS (Or.inr (Nat.le_trans (Nat.le_refl _) g140)) all0)).trans K142 (allS (Or.inr (Nat.le_trans (Nat.le_refl _) g140)) all0)), V142⟩ (by decide) (by decide)
def Q_cC5_2 (Z : State) (b d : Addr) (kc kd : ClassId) (c0 c1 : Int32) (h0 : Heap) (n0 : Nat) : Option Value → Heap → List Loc → Prop := (fun v h L => Fr n0 L ∧ Keep h0 h [d] ∧ (((255 : Int32) < c0 ∧ v = some (.int (0 : Int32))) ∨ (¬ (255 : Int32) < c0 ∧ (255 : Int32) < c1 ∧ v = some (.int (1 : Int32))) ∨ (¬ (255 : Int32) < c0 ∧ ¬ (255 : Int32) < c1 ∧ v = some (.int (2 : Int32)) ∧ Arv Z h d kd .byte (2 : Int32) [(.int (StrChars.lo8 c0)), (.int (StrChars.lo8 c1))] (.int (0 : Int32)))))
theorem cC5_2 (l : Launch) (Z : State) (a0 : Array Value) (hw : tHW Z a0) (ws : List Jvm.Cond) (b d : Addr) (kc kd : ClassId) (c0 c1 : Int32) (h0 : Heap) (n0 : Nat) (Z0 : n0 ≤ h0.size) (V_b : Arv Z h0 b kc .char (2 : Int32) [(.int c0), (.int c1)] (.int (0 : Int32))) (V_d : Arv Z h0 d kd .byte (2 : Int32) [(.int (0 : Int32)), (.int (0 : Int32))] (.int (0 : Int32))) (gd : n0 ≤ d) (nbd : b ≠ d) :
    Con l (⟨"java/lang/StringUTF16", "compress", "([CI[BII)I"⟩ : MethodName) jdk_52_method_21_code 7 (some .int) ws ({ frames := 0, cells := 0, slots := 0, locals := 0 } : Room) Z #[(.ref b), (.int (0 : Int32)), (.ref d), (.int (0 : Int32)), (.int (2 : Int32))] h0 (Q_cC5_2 Z b d kc kd c0 c1 h0 n0) 0 0 := by
  refine enter (plainFor_of_name pn_0) ?_
  intro p e s m below meth c s₁ hnm hret hlk D0
  rw [ef_cC5_2 m b d]
  refine g_iconst D0 1 (0 : Int32) d_jdk_52m21_0 rfl rfl ?_
  refine g_istore D0 3 #[.val (.ref b), .val (.int (0 : Int32)), .val (.ref d), .val (.int (0 : Int32)), .val (.int (2 : Int32)), .val (.int (0 : Int32)), .unset] d_jdk_52m21_1 rfl rfl ?_
  refine g_iload D0 5 d_jdk_52m21_3 rfl rfl ?_
  refine g_iload D0 7 d_jdk_52m21_5 rfl rfl ?_
  refine g_icmpN D0 10 d_jdk_52m21_7 (by decide) rfl ?_
  refine g_aloadN D0 11 d_jdk_52m21_10 rfl rfl rfl ?_
  refine g_iloadN D0 12 d_jdk_52m21_11 rfl rfl ?_
  refine g_caload D0 13 V_b (v := (.int c0)) ⟨by decide, by decide⟩ rfl d_jdk_52m21_12 rfl ?_
  refine g_istore D0 15 #[.val (.ref b), .val (.int (0 : Int32)), .val (.ref d), .val (.int (0 : Int32)), .val (.int (2 : Int32)), .val (.int (0 : Int32)), .val (.int c0)] d_jdk_52m21_13 rfl rfl ?_
  refine g_iload D0 17 d_jdk_52m21_15 rfl rfl ?_
  refine g_sipush D0 20 (255 : Int32) d_jdk_52m21_17 rfl rfl ?_
  by_cases q0 : (255 : Int32) < c0
  · refine g_icmpN D0 23 d_jdk_52m21_20 (tlt q0).2.2.2 rfl ?_
    refine g_iload D0 25 d_jdk_52m21_23 rfl rfl ?_
    exact r_I D0 hret hlk d_jdk_52m21_25 ⟨(Fr.nil n0), (Keep.refl _ [d]), Or.inl ⟨q0, rfl⟩⟩ (by decide) (by decide)
  refine g_icmpY D0 26 d_jdk_52m21_20 (flt q0).2.2.2 (by decide) (by decide) ?_
  refine g_aloadN D0 27 d_jdk_52m21_26 rfl rfl rfl ?_
  refine g_iloadN D0 28 d_jdk_52m21_27 rfl rfl ?_
  refine g_iload D0 30 d_jdk_52m21_28 rfl rfl ?_
  refine g_i2b D0 31 d_jdk_52m21_30 rfl ?_
  refine g_bastore D0 32 V_d ⟨by decide, by decide⟩ 0 (by decide) (Nat.le_of_ble_eq_true rfl) (fun _ _ => trivial) d_jdk_52m21_31 rfl ?_
  intro T143 h143 W143 V143 D143
  rw [nb_b c0] at V143
  replace V143 : Arv Z h143 d kd .byte (2 : Int32) [(.int (StrChars.lo8 c0)), (.int (0 : Int32))] (.int (0 : Int32)) := V143
  have N143 := Fr.snoc D143.st (Fr.nil n0) gd
  refine g_iinc D143 35 (1 : Int32) #[.val (.ref b), .val (.int ((0 : Int32) + (1 : Int32))), .val (.ref d), .val (.int (0 : Int32)), .val (.int (2 : Int32)), .val (.int (0 : Int32)), .val (.int c0)] d_jdk_52m21_32 rfl rfl rfl rfl ?_
  rw [show ((0 : Int32) + (1 : Int32)) = (1 : Int32) from by decide]
  refine g_iinc D143 38 (1 : Int32) #[.val (.ref b), .val (.int (1 : Int32)), .val (.ref d), .val (.int ((0 : Int32) + (1 : Int32))), .val (.int (2 : Int32)), .val (.int (0 : Int32)), .val (.int c0)] d_jdk_52m21_35 rfl rfl rfl rfl ?_
  rw [show ((0 : Int32) + (1 : Int32)) = (1 : Int32) from by decide]
  refine g_iinc D143 41 (1 : Int32) #[.val (.ref b), .val (.int (1 : Int32)), .val (.ref d), .val (.int (1 : Int32)), .val (.int (2 : Int32)), .val (.int ((0 : Int32) + (1 : Int32))), .val (.int c0)] d_jdk_52m21_38 rfl rfl rfl rfl ?_
  rw [show ((0 : Int32) + (1 : Int32)) = (1 : Int32) from by decide]
  refine g_goto D143 3 d_jdk_52m21_41 (by decide) (by decide) ?_
  refine g_iload D143 5 d_jdk_52m21_3 rfl rfl ?_
  refine g_iload D143 7 d_jdk_52m21_5 rfl rfl ?_
  refine g_icmpN D143 10 d_jdk_52m21_7 (by decide) rfl ?_
  refine g_aloadN D143 11 d_jdk_52m21_10 rfl rfl rfl ?_
  refine g_iloadN D143 12 d_jdk_52m21_11 rfl rfl ?_
  refine g_caload D143 13 (V_b.other W143 nbd) (v := (.int c1)) ⟨by decide, by decide⟩ rfl d_jdk_52m21_12 rfl ?_
  refine g_istore D143 15 #[.val (.ref b), .val (.int (1 : Int32)), .val (.ref d), .val (.int (1 : Int32)), .val (.int (2 : Int32)), .val (.int (1 : Int32)), .val (.int c1)] d_jdk_52m21_13 rfl rfl ?_
  refine g_iload D143 17 d_jdk_52m21_15 rfl rfl ?_
  refine g_sipush D143 20 (255 : Int32) d_jdk_52m21_17 rfl rfl ?_
  by_cases q1 : (255 : Int32) < c1
  · refine g_icmpN D143 23 d_jdk_52m21_20 (tlt q1).2.2.2 rfl ?_
    refine g_iload D143 25 d_jdk_52m21_23 rfl rfl ?_
    exact r_I D143 hret hlk d_jdk_52m21_25 ⟨N143, ((Keep.refl _ [d]).wr W143 (Or.inl (List.mem_of_getElem? (i := 0) rfl))), Or.inr (Or.inl ⟨q0, q1, rfl⟩)⟩ (by decide) (by decide)
  refine g_icmpY D143 26 d_jdk_52m21_20 (flt q1).2.2.2 (by decide) (by decide) ?_
  refine g_aloadN D143 27 d_jdk_52m21_26 rfl rfl rfl ?_
  refine g_iloadN D143 28 d_jdk_52m21_27 rfl rfl ?_
  refine g_iload D143 30 d_jdk_52m21_28 rfl rfl ?_
  refine g_i2b D143 31 d_jdk_52m21_30 rfl ?_
  refine g_bastore D143 32 V143 ⟨by decide, by decide⟩ 1 (by decide) (Nat.le_of_ble_eq_true rfl) (fun _ _ => trivial) d_jdk_52m21_31 rfl ?_
  intro T144 h144 W144 V144 D144
  rw [nb_b c1] at V144
  replace V144 : Arv Z h144 d kd .byte (2 : Int32) [(.int (StrChars.lo8 c0)), (.int (StrChars.lo8 c1))] (.int (0 : Int32)) := V144
  have N144 := Fr.snoc D144.st N143 gd
  refine g_iinc D144 35 (1 : Int32) #[.val (.ref b), .val (.int ((1 : Int32) + (1 : Int32))), .val (.ref d), .val (.int (1 : Int32)), .val (.int (2 : Int32)), .val (.int (1 : Int32)), .val (.int c1)] d_jdk_52m21_32 rfl rfl rfl rfl ?_
  rw [show ((1 : Int32) + (1 : Int32)) = (2 : Int32) from by decide]
  refine g_iinc D144 38 (1 : Int32) #[.val (.ref b), .val (.int (2 : Int32)), .val (.ref d), .val (.int ((1 : Int32) + (1 : Int32))), .val (.int (2 : Int32)), .val (.int (1 : Int32)), .val (.int c1)] d_jdk_52m21_35 rfl rfl rfl rfl ?_
  rw [show ((1 : Int32) + (1 : Int32)) = (2 : Int32) from by decide]
  refine g_iinc D144 41 (1 : Int32) #[.val (.ref b), .val (.int (2 : Int32)), .val (.ref d), .val (.int (2 : Int32)), .val (.int (2 : Int32)), .val (.int ((1 : Int32) + (1 : Int32))), .val (.int c1)] d_jdk_52m21_38 rfl rfl rfl rfl ?_
  rw [show ((1 : Int32) + (1 : Int32)) = (2 : Int32) from by decide]
  refine g_goto D144 3 d_jdk_52m21_41 (by decide) (by decide) ?_
  refine g_iload D144 5 d_jdk_52m21_3 rfl rfl ?_
  refine g_iload D144 7 d_jdk_52m21_5 rfl rfl ?_
  refine g_icmpY D144 44 d_jdk_52m21_7 (by decide) (by decide) (by decide) ?_
  refine g_iload D144 46 d_jdk_52m21_44 rfl rfl ?_
  exact r_I D144 hret hlk d_jdk_52m21_46 ⟨N144, (((Keep.refl _ [d]).wr W143 (Or.inl (List.mem_of_getElem? (i := 0) rfl))).wr W144 (Or.inl (List.mem_of_getElem? (i := 0) rfl))), Or.inr (Or.inr (⟨q0, q1, rfl, V144⟩))⟩ (by decide) (by decide)
def Q_cC3_2 (Z : State) (b : Addr) (kc : ClassId) (c0 c1 : Int32) (h0 : Heap) (n0 : Nat) : Option Value → Heap → List Loc → Prop := (fun v h L => ∃ t k cd N2 vs, v = some (.ref t) ∧ h0.size ≤ t ∧ Fr n0 L ∧ Ext h0 h ∧ Arv Z h t k .byte N2 vs (.int (0 : Int32)) ∧ StrChars.Road.CodA [c0, c1] cd N2 vs)
theorem cC3_2 (l : Launch) (Z : State) (a0 : Array Value) (hw : tHW Z a0) (ws : List Jvm.Cond) (b : Addr) (kc : ClassId) (c0 c1 : Int32) (h0 : Heap) (n0 : Nat) (Z0 : n0 ≤ h0.size) (OLD : Old Z n0 h0) (SA : tSA Z) (SH : tSH Z) (SL : tSL Z) (V_b : Arv Z h0 b kc .char (2 : Int32) [(.int c0), (.int c1)] (.int (0 : Int32))) (H0 : C16 c0) (H1 : C16 c1) :
    Con l (⟨"java/lang/StringUTF16", "compress", "([CII)[B"⟩ : MethodName) jdk_52_method_16_code 6 (some (.array .byte)) ws ({ frames := 3, cells := 2, slots := 6, locals := 40 } : Room) Z #[(.ref b), (.int (0 : Int32)), (.int (2 : Int32))] h0 (Q_cC3_2 Z b kc c0 c1 h0 n0) 2 6 := by
  refine enter (plainFor_of_name pn_0) ?_
  intro p e s m below meth c s₁ hnm hret hlk D0
  rw [ef_cC3_2 m b]
  refine g_iloadN D0 1 d_jdk_52m16_0 rfl rfl ?_
  refine g_newP D0 3 (aty := .byte) (hw _ w_21) d_jdk_52m16_1 (by decide) (cap := 2) (by decide) (by decide) (by decide) (by decide) (fun _ _ => trivial) rfl ?_
  intro T145 h145 a145 k145 g145 E145 V145 D145
  have V145' : Arv Z h145 a145 k145 .byte (2 : Int32) [(.int (0 : Int32)), (.int (0 : Int32))] (.int (0 : Int32)) := V145.pad (pad_rep [] (.int (0 : Int32)) 2)
  refine g_astoreN D145 4 #[.val (.ref b), .val (.int (0 : Int32)), .val (.int (2 : Int32)), .val (.ref a145), .unset, .unset] d_jdk_52m16_3 rfl rfl rfl ?_
  refine g_aloadN D145 5 d_jdk_52m16_4 rfl rfl rfl ?_
  refine g_iloadN D145 6 d_jdk_52m16_5 rfl rfl ?_
  refine g_aloadN D145 7 d_jdk_52m16_6 rfl rfl rfl ?_
  refine g_iconst D145 8 (0 : Int32) d_jdk_52m16_7 rfl rfl ?_
  refine g_iloadN D145 9 d_jdk_52m16_8 rfl rfl ?_
  refine g_callS D145 12 (hw _ w_63) (hw _ w_64) (hw _ w_61) (hw _ w_65) (by decide) ((cC5_2 l Z a0 hw [] b a145 kc k145 c0 c1 h145 n0 (Nat.le_trans Z0 E145.1) (V_b.ext E145) V145' (Nat.le_trans Z0 (Nat.le_of_eq g145.symm)) (Nat.ne_of_lt (Nat.lt_of_lt_of_le V_b.lt (Nat.le_of_eq g145.symm)))).back D145 0 (hw _ w_65) (hw _ w_61) (by decide) (by decide)) rfl [(.ref b), (.int (0 : Int32)), (.ref a145), (.int (0 : Int32)), (.int (2 : Int32))] rfl (lenOf pd_3 rfl) rfl (Nat.le_of_eq rfl) (by decide) (by decide) (fun _ _ _ _ => trivial) d_jdk_52m16_9 rfl ?_
  intro v146 T146 h146 L146 q146 D146
  obtain ⟨N146, K146, q146⟩ := q146
  have NF146 := Fr.app (Fr.nil n0) N146
  rcases q146 with ⟨q0, rfl⟩ | ⟨q0, q1, rfl⟩ | ⟨q0, q1, rfl, V146⟩
  · show Go p e below _ (T146.setTop (mkF m 12 #[.val (.ref b), .val (.int (0 : Int32)), .val (.int (2 : Int32)), .val (.ref a145), .unset, .unset] [(.int (0 : Int32))]))
    refine g_istore D146 14 #[.val (.ref b), .val (.int (0 : Int32)), .val (.int (2 : Int32)), .val (.ref a145), .val (.int (0 : Int32)), .unset] d_jdk_52m16_12 rfl rfl ?_
    refine g_iload D146 16 d_jdk_52m16_14 rfl rfl ?_
    refine g_iloadN D146 17 d_jdk_52m16_16 rfl rfl ?_
    refine g_icmpN D146 20 d_jdk_52m16_17 (by decide) rfl ?_
    refine g_aloadN D146 21 d_jdk_52m16_20 rfl rfl rfl ?_
    refine g_iloadN D146 22 d_jdk_52m16_21 rfl rfl ?_
    refine g_iloadN D146 23 d_jdk_52m16_22 rfl rfl ?_
    refine g_callS D146 26 (hw _ w_97) (hw _ w_98) (hw _ w_61) (hw _ w_99) (by decide) ((cToB_2 l Z a0 hw [] b kc c0 c1 h146 n0 (Nat.le_trans (Nat.le_trans Z0 E145.1) K146.1) ((OLD.ext E145).keep K146 (allS (Nat.le_trans Z0 (Nat.le_of_eq g145.symm)) all0)) SA SH SL ((V_b.ext E145).keep K146 (ninS (Nat.ne_of_lt (Nat.lt_of_lt_of_le V_b.lt (Nat.le_of_eq g145.symm))) nin0))).back D146 0 (hw _ w_99) (hw _ w_61) (by decide) (by decide)) rfl [(.ref b), (.int (0 : Int32)), (.int (2 : Int32))] rfl (lenOf pd_4 rfl) rfl (Nat.le_of_eq rfl) (by decide) (by decide) (fun _ _ _ _ => trivial) d_jdk_52m16_23 rfl ?_
    intro v147 T147 h147 L147 q147 D147
    obtain ⟨t147, k147, rfl, g147, N147, E147, V147⟩ := q147
    have NF147 := Fr.app NF146 N147
    show Go p e below _ (T147.setTop (mkF m 26 #[.val (.ref b), .val (.int (0 : Int32)), .val (.int (2 : Int32)), .val (.ref a145), .val (.int (0 : Int32)), .unset] [(.ref t147)]))
    refine g_astore D147 28 #[.val (.ref b), .val (.int (0 : Int32)), .val (.int (2 : Int32)), .val (.ref a145), .val (.int (0 : Int32)), .val (.ref t147)] d_jdk_52m16_26 rfl rfl rfl ?_
    refine g_aload D147 30 d_jdk_52m16_28 rfl rfl rfl ?_
    refine g_iload D147 32 d_jdk_52m16_30 rfl rfl ?_
    refine g_callSp D147 35 (hw _ w_113) (hw _ w_114) (hw _ w_61) (hw _ w_115) (by decide) ((cGet l Z a0 hw [] t147 k147 (StrChars.Road.wideBytes [c0, c1]) (4 : Int32) (0 : Int32) (0 : Int32) c0 h147 n0 (Nat.le_trans (Nat.le_trans (Nat.le_trans Z0 E145.1) K146.1) E147.1) (((OLD.ext E145).keep K146 (allS (Nat.le_trans Z0 (Nat.le_of_eq g145.symm)) all0)).ext E147) SA SH SL V147 (by decide) ⟨by decide, by decide⟩ ⟨by decide, by decide⟩ rfl rfl H0).back D147 0 (hw _ w_115) (hw _ w_61) (by decide) (by decide)) rfl [(.ref t147), (.int (0 : Int32))] rfl (lenOf pd_5 rfl) rfl (Nat.le_of_eq rfl) (by decide) (by decide) d_jdk_52m16_32 rfl ?_
    intro v148 T148 q148 D148
    subst q148
    show Go p e below _ (T148.setTop (mkF m 35 #[.val (.ref b), .val (.int (0 : Int32)), .val (.int (2 : Int32)), .val (.ref a145), .val (.int (0 : Int32)), .val (.ref t147)] [(.int c0)]))
    refine g_sipush D148 38 (255 : Int32) d_jdk_52m16_35 rfl rfl ?_
    refine g_icmpY D148 54 d_jdk_52m16_38 (tlt q0).2.2.1 (by decide) (by decide) ?_
    refine g_aload D148 56 d_jdk_52m16_54 rfl rfl rfl ?_
    exact r_A D148 hret rfl rfl hlk d_jdk_52m16_56 ⟨t147, k147, 1, _, _, rfl, (Nat.le_trans (Nat.le_trans (Nat.le_trans (Nat.le_refl _) E145.1) K146.1) g147), NF147, Keep.toExt ((((Keep.refl _ []).ext E145).trans K146 (allS (Or.inr (Nat.le_trans (Nat.le_refl _) (Nat.le_of_eq g145.symm))) all0)).ext E147), V147, Or.inr ⟨rfl, rfl, rfl, c0, List.mem_of_getElem? (i := 0) rfl, q0⟩⟩ (by decide) (by decide)
  · show Go p e below _ (T146.setTop (mkF m 12 #[.val (.ref b), .val (.int (0 : Int32)), .val (.int (2 : Int32)), .val (.ref a145), .unset, .unset] [(.int (1 : Int32))]))
    refine g_istore D146 14 #[.val (.ref b), .val (.int (0 : Int32)), .val (.int (2 : Int32)), .val (.ref a145), .val (.int (1 : Int32)), .unset] d_jdk_52m16_12 rfl rfl ?_
    refine g_iload D146 16 d_jdk_52m16_14 rfl rfl ?_
    refine g_iloadN D146 17 d_jdk_52m16_16 rfl rfl ?_
    refine g_icmpN D146 20 d_jdk_52m16_17 (by decide) rfl ?_
    refine g_aloadN D146 21 d_jdk_52m16_20 rfl rfl rfl ?_
    refine g_iloadN D146 22 d_jdk_52m16_21 rfl rfl ?_
    refine g_iloadN D146 23 d_jdk_52m16_22 rfl rfl ?_
    refine g_callS D146 26 (hw _ w_97) (hw _ w_98) (hw _ w_61) (hw _ w_99) (by decide) ((cToB_2 l Z a0 hw [] b kc c0 c1 h146 n0 (Nat.le_trans (Nat.le_trans Z0 E145.1) K146.1) ((OLD.ext E145).keep K146 (allS (Nat.le_trans Z0 (Nat.le_of_eq g145.symm)) all0)) SA SH SL ((V_b.ext E145).keep K146 (ninS (Nat.ne_of_lt (Nat.lt_of_lt_of_le V_b.lt (Nat.le_of_eq g145.symm))) nin0))).back D146 0 (hw _ w_99) (hw _ w_61) (by decide) (by decide)) rfl [(.ref b), (.int (0 : Int32)), (.int (2 : Int32))] rfl (lenOf pd_4 rfl) rfl (Nat.le_of_eq rfl) (by decide) (by decide) (fun _ _ _ _ => trivial) d_jdk_52m16_23 rfl ?_
    intro v149 T149 h149 L149 q149 D149
    obtain ⟨t149, k149, rfl, g149, N149, E149, V149⟩ := q149
    have NF149 := Fr.app NF146 N149
    show Go p e below _ (T149.setTop (mkF m 26 #[.val (.ref b), .val (.int (0 : Int32)), .val (.int (2 : Int32)), .val (.ref a145), .val (.int (1 : Int32)), .unset] [(.ref t149)]))
    refine g_astore D149 28 #[.val (.ref b), .val (.int (0 : Int32)), .val (.int (2 : Int32)), .val (.ref a145), .val (.int (1 : Int32)), .val (.ref t149)] d_jdk_52m16_26 rfl rfl rfl ?_
    refine g_aload D149 30 d_jdk_52m16_28 rfl rfl rfl ?_
    refine g_iload D149 32 d_jdk_52m16_30 rfl rfl ?_
    refine g_callSp D149 35 (hw _ w_113) (hw _ w_114) (hw _ w_61) (hw _ w_115) (by decide) ((cGet l Z a0 hw [] t149 k149 (StrChars.Road.wideBytes [c0, c1]) (4 : Int32) (1 : Int32) (2 : Int32) c1 h149 n0 (Nat.le_trans (Nat.le_trans (Nat.le_trans Z0 E145.1) K146.1) E149.1) (((OLD.ext E145).keep K146 (allS (Nat.le_trans Z0 (Nat.le_of_eq g145.symm)) all0)).ext E149) SA SH SL V149 (by decide) ⟨by decide, by decide⟩ ⟨by decide, by decide⟩ rfl rfl H1).back D149 0 (hw _ w_115) (hw _ w_61) (by decide) (by decide)) rfl [(.ref t149), (.int (1 : Int32))] rfl (lenOf pd_5 rfl) rfl (Nat.le_of_eq rfl) (by decide) (by decide) d_jdk_52m16_32 rfl ?_
    intro v150 T150 q150 D150
    subst q150
    show Go p e below _ (T150.setTop (mkF m 35 #[.val (.ref b), .val (.int (0 : Int32)), .val (.int (2 : Int32)), .val (.ref a145), .val (.int (1 : Int32)), .val (.ref t149)] [(.int c1)]))
    refine g_sipush D150 38 (255 : Int32) d_jdk_52m16_35 rfl rfl ?_
    refine g_icmpY D150 54 d_jdk_52m16_38 (tlt q1).2.2.1 (by decide) (by decide) ?_
    refine g_aload D150 56 d_jdk_52m16_54 rfl rfl rfl ?_
    exact r_A D150 hret rfl rfl hlk d_jdk_52m16_56 ⟨t149, k149, 1, _, _, rfl, (Nat.le_trans (Nat.le_trans (Nat.le_trans (Nat.le_refl _) E145.1) K146.1) g149), NF149, Keep.toExt ((((Keep.refl _ []).ext E145).trans K146 (allS (Or.inr (Nat.le_trans (Nat.le_refl _) (Nat.le_of_eq g145.symm))) all0)).ext E149), V149, Or.inr ⟨rfl, rfl, rfl, c1, List.mem_of_getElem? (i := 1) rfl, q1⟩⟩ (by decide) (by decide)
  · show Go p e below _ (T146.setTop (mkF m 12 #[.val (.ref b), .val (.int (0 : Int32)), .val (.int (2 : Int32)), .val (.ref a145), .unset, .unset] [(.int (2 : Int32))]))
    refine g_istore D146 14 #[.val (.ref b), .val (.int (0 : Int32)), .val (.int (2 : Int32)), .val (.ref a145), .val (.int (2 : Int32)), .unset] d_jdk_52m16_12 rfl rfl ?_
    refine g_iload D146 16 d_jdk_52m16_14 rfl rfl ?_
    refine g_iloadN D146 17 d_jdk_52m16_16 rfl rfl ?_
    refine g_icmpY D146 57 d_jdk_52m16_17 (by decide) (by decide) (by decide) ?_
    refine g_aloadN D146 58 d_jdk_52m16_57 rfl rfl rfl ?_
    exact r_A D146 hret rfl rfl hlk d_jdk_52m16_58 ⟨a145, k145, 0, _, _, rfl, (Nat.le_trans (Nat.le_refl _) (Nat.le_of_eq g145.symm)), NF146, Keep.toExt (((Keep.refl _ []).ext E145).trans K146 (allS (Or.inr (Nat.le_trans (Nat.le_refl _) (Nat.le_of_eq g145.symm))) all0)), V146, Or.inl ⟨rfl, rfl, rfl, (u8_cons q0 (u8_cons q1 u8_nil))⟩⟩ (by decide) (by decide)
theorem cCod_2_0 (l : Launch) (Z : State) (a0 : Array Value) (hw : tHW Z a0) (ws : List Jvm.Cond) (t : Addr) (kb : ClassId) (vs : List Value) (h0 : Heap) (n0 : Nat) (Z0 : n0 ≤ h0.size) (V_t : Arv Z h0 t kb .byte (2 : Int32) vs (.int (0 : Int32))) :
    Con l (⟨"java/lang/StringUTF16", "coderFromArrayLen", "([BI)B"⟩ : MethodName) jdk_52_method_15_code 2 (some .byte) ws ({ frames := 0, cells := 0, slots := 0, locals := 0 } : Room) Z #[(.ref t), (.int (2 : Int32))] h0 (fun v h L => v = some (.int (0 : Int32)) ∧ L = [] ∧ h = h0) 0 0 := by
  refine enter (plainFor_of_name pn_0) ?_
  intro p e s m below meth c s₁ hnm hret hlk D0
  rw [ef_cCod_2_0 m t]
  refine g_iloadN D0 1 d_jdk_52m15_0 rfl rfl ?_
  refine g_aloadN D0 2 d_jdk_52m15_1 rfl rfl rfl ?_
  refine g_alen D0 3 V_t d_jdk_52m15_2 rfl ?_
  refine g_isub D0 4 d_jdk_52m15_3 rfl ?_
  rw [show ((2 : Int32) - (2 : Int32)) = (0 : Int32) from by decide]
  refine g_bipush D0 6 (31 : Int32) d_jdk_52m15_4 rfl rfl ?_
  refine g_iushr D0 7 d_jdk_52m15_6 rfl ?_
  rw [show (XT.ushr (0 : Int32) (31 : Int32)) = (0 : Int32) from by decide]
  refine g_i2b D0 8 d_jdk_52m15_7 rfl ?_
  rw [show ((0 : Int32).toInt8.toInt32) = (0 : Int32) from by decide]
  exact r_N D0 hret (by simp) hlk d_jdk_52m15_8 ⟨(by decide : some (Value.int (nar .byte (0 : Int32))) = some (.int (0 : Int32))), rfl, rfl⟩ (by decide) (by decide)
theorem cCod_2_1 (l : Launch) (Z : State) (a0 : Array Value) (hw : tHW Z a0) (ws : List Jvm.Cond) (t : Addr) (kb : ClassId) (vs : List Value) (h0 : Heap) (n0 : Nat) (Z0 : n0 ≤ h0.size) (V_t : Arv Z h0 t kb .byte (4 : Int32) vs (.int (0 : Int32))) :
    Con l (⟨"java/lang/StringUTF16", "coderFromArrayLen", "([BI)B"⟩ : MethodName) jdk_52_method_15_code 2 (some .byte) ws ({ frames := 0, cells := 0, slots := 0, locals := 0 } : Room) Z #[(.ref t), (.int (2 : Int32))] h0 (fun v h L => v = some (.int (1 : Int32)) ∧ L = [] ∧ h = h0) 0 0 := by
  refine enter (plainFor_of_name pn_0) ?_
  intro p e s m below meth c s₁ hnm hret hlk D0
  rw [ef_cCod_2_1 m t]
  refine g_iloadN D0 1 d_jdk_52m15_0 rfl rfl ?_
  refine g_aloadN D0 2 d_jdk_52m15_1 rfl rfl rfl ?_
  refine g_alen D0 3 V_t d_jdk_52m15_2 rfl ?_
  refine g_isub D0 4 d_jdk_52m15_3 rfl ?_
  rw [show ((2 : Int32) - (4 : Int32)) = (-2 : Int32) from by decide]
  refine g_bipush D0 6 (31 : Int32) d_jdk_52m15_4 rfl rfl ?_
  refine g_iushr D0 7 d_jdk_52m15_6 rfl ?_
  rw [show (XT.ushr (-2 : Int32) (31 : Int32)) = (1 : Int32) from by decide]
  refine g_i2b D0 8 d_jdk_52m15_7 rfl ?_
  rw [show ((1 : Int32).toInt8.toInt32) = (1 : Int32) from by decide]
  exact r_N D0 hret (by simp) hlk d_jdk_52m15_8 ⟨(by decide : some (Value.int (nar .byte (1 : Int32))) = some (.int (1 : Int32))), rfl, rfl⟩ (by decide) (by decide)
def Q_cN4_2 (Z : State) (x b : Addr) (kc : ClassId) (zc : Int32) (c0 c1 : Int32) (h0 : Heap) (n0 : Nat) : Option Value → Heap → List Loc → Prop := (fun v h L => v = none ∧ Fr n0 L ∧ Keep h0 h [x] ∧ TS Z h x [c0, c1])
theorem cN4_2 (l : Launch) (Z : State) (a0 : Array Value) (hw : tHW Z a0) (ws : List Jvm.Cond) (x b : Addr) (kc : ClassId) (zc : Int32) (c0 c1 : Int32) (h0 : Heap) (n0 : Nat) (Z0 : n0 ≤ h0.size) (OLD : Old Z n0 h0) (SA : tSA Z) (SH : tSH Z) (SL : tSL Z) (CS : tCS Z zc) (hzc : ¬ zc = 0) (E_x : Exa Z h0 x "java/lang/String") (F_v : Fld Z h0 x "java/lang/String" "value" "[B" .null) (F_c : Fld Z h0 x "java/lang/String" "coder" "B" (.int (0 : Int32))) (gx : n0 ≤ x) (V_b : Arv Z h0 b kc .char (2 : Int32) [(.int c0), (.int c1)] (.int (0 : Int32))) (H0 : C16 c0) (H1 : C16 c1) :
    Con l (⟨"java/lang/String", "<init>", "([CIILjava/lang/Void;)V"⟩ : MethodName) jdk_42_method_149_code 6 none ws ({ frames := 4, cells := 2, slots := 6, locals := 57 } : Room) Z #[(.ref x), (.ref b), (.int (0 : Int32)), (.int (2 : Int32)), .null] h0 (Q_cN4_2 Z x b kc zc c0 c1 h0 n0) 2 6 := by
  refine enter (plainFor_of_name pn_1) ?_
  intro p e s m below meth c s₁ hnm hret hlk D0
  rw [ef_cN4_2 m x b]
  refine g_aloadN D0 1 d_jdk_42m149_0 rfl rfl rfl ?_
  refine g_initO D0 4 (hw _ w_17) (hw _ w_18) (hw _ w_19) rfl d_jdk_42m149_1 (by decide) (W := 0) (Nat.le_of_eq rfl) (by decide) rfl ?_
  intro T151 D151
  refine g_iloadN D151 5 d_jdk_42m149_4 rfl rfl ?_
  refine g_ifY D151 27 d_jdk_42m149_5 (by decide) (by decide) (by decide) ?_
  refine g_getS D151 30 (hw _ w_58) Via.refl (CS.ext OLD.2) d_jdk_42m149_27 rfl ?_
  intro T152 D152
  refine g_ifN D152 33 d_jdk_42m149_30 (feq hzc).1 rfl ?_
  refine g_aloadN D152 34 d_jdk_42m149_33 rfl rfl rfl ?_
  refine g_iloadN D152 35 d_jdk_42m149_34 rfl rfl ?_
  refine g_iloadN D152 36 d_jdk_42m149_35 rfl rfl ?_
  refine g_callS D152 39 (hw _ w_59) (hw _ w_60) (hw _ w_61) (hw _ w_62) (by decide) ((cC3_2 l Z a0 hw [] b kc c0 c1 h0 n0 Z0 OLD SA SH SL V_b H0 H1).back D152 0 (hw _ w_62) (hw _ w_61) (by decide) (by decide)) rfl [(.ref b), (.int (0 : Int32)), (.int (2 : Int32))] rfl (lenOf pd_4 rfl) rfl (Nat.le_of_eq rfl) (by decide) (by decide) (fun _ _ _ _ => trivial) d_jdk_42m149_36 rfl ?_
  intro v153 T153 h153 L153 q153 D153
  obtain ⟨t153, k153, cd153, N2153, vs153, rfl, g153, N153, E153, V153, hc153⟩ := q153
  have NF153 := Fr.app (Fr.nil n0) N153
  show Go p e below _ (T153.setTop (mkF m 39 #[.val (.ref x), .val (.ref b), .val (.int (0 : Int32)), .val (.int (2 : Int32)), .val .null, .unset] [(.ref t153)]))
  refine g_astore D153 41 #[.val (.ref x), .val (.ref b), .val (.int (0 : Int32)), .val (.int (2 : Int32)), .val .null, .val (.ref t153)] d_jdk_42m149_39 rfl rfl rfl ?_
  refine g_aloadN D153 42 d_jdk_42m149_41 rfl rfl rfl ?_
  refine g_aload D153 44 d_jdk_42m149_42 rfl rfl rfl ?_
  refine g_iloadN D153 45 d_jdk_42m149_44 rfl rfl ?_
  have hk := hc153
  rcases hc153 with ⟨rfl, rfl, rfl, -⟩ | ⟨rfl, rfl, rfl, -⟩
  · refine g_callSp D153 48 (hw _ w_66) (hw _ w_67) (hw _ w_61) (hw _ w_68) (by decide) ((cCod_2_0 l Z a0 hw [] t153 k153 _ h153 n0 (Nat.le_trans Z0 E153.1) V153).back D153 1 (hw _ w_68) (hw _ w_61) (by decide) (by decide)) rfl [(.ref t153), (.int (2 : Int32))] rfl (lenOf pd_6 rfl) rfl (Nat.le_of_eq rfl) (by decide) (by decide) d_jdk_42m149_45 rfl ?_
    intro v154 T154 q154 D154
    subst q154
    show Go p e below _ (T154.setTop (mkF m 48 #[.val (.ref x), .val (.ref b), .val (.int (0 : Int32)), .val (.int (2 : Int32)), .val .null, .val (.ref t153)] [(.int (0 : Int32)), (.ref x)]))
    refine g_putF D154 51 (hw _ w_27) Via.refl (F_c.ext E153) (E_x.ext E153) (Or.inr ⟨(hw _ w_23), rfl, hnm⟩) (hw _ w_7) (ty := .byte) (by decide) rfl rfl (fun _ _ => trivial) d_jdk_42m149_48 rfl ?_
    intro T155 h155 W155 D155
    have N155 := Fr.snoc D155.st NF153 gx
    have F155 := (F_c.ext E153).same W155
    refine g_aloadN D155 52 d_jdk_42m149_51 rfl rfl rfl ?_
    refine g_aload D155 54 d_jdk_42m149_52 rfl rfl rfl ?_
    refine g_putF D155 57 (hw _ w_26) Via.refl ((F_v.ext E153).other W155 (Or.inr (slot_ne (Or.inr (hw _ w_22)) (Or.inr (hw _ w_23)) (by decide) (t := (.array .byte)) (t' := .byte) (by decide) (by decide)))) ((E_x.ext E153).wr W155) (Or.inr ⟨(hw _ w_22), rfl, hnm⟩) (hw _ w_7) (ty := (.array .byte)) (by decide) rfl rfl (fun _ _ => trivial) d_jdk_42m149_54 rfl ?_
    intro T156 h156 W156 D156
    have N156 := Fr.snoc D156.st N155 gx
    have F156 := ((F_v.ext E153).other W155 (Or.inr (slot_ne (Or.inr (hw _ w_22)) (Or.inr (hw _ w_23)) (by decide) (t := (.array .byte)) (t' := .byte) (by decide) (by decide)))).same W156
    exact r_V D156 hret hlk d_jdk_42m149_57 ⟨rfl, N156, ((((Keep.refl _ [x]).ext E153).wr W155 (Or.inl (List.mem_of_getElem? (i := 0) rfl))).wr W156 (Or.inl (List.mem_of_getElem? (i := 0) rfl))), t153, k153, (0 : Int32), _, _, (((E_x.ext E153).wr W155).wr W156), (F155.other W156 (Or.inr (slot_ne (Or.inr (hw _ w_23)) (Or.inr (hw _ w_22)) (by decide) (t := .byte) (t' := (.array .byte)) (by decide) (by decide)))), F156, ((V153.other W155 (Ne.symm (Nat.ne_of_lt (Nat.lt_of_lt_of_le E_x.lt g153)))).other W156 (Ne.symm (Nat.ne_of_lt (Nat.lt_of_lt_of_le E_x.lt g153)))), hk, (c16_cons H0 (c16_cons H1 c16_nil)), Nat.le_of_ble_eq_true rfl⟩ (by decide) (by decide)
  · refine g_callSp D153 48 (hw _ w_66) (hw _ w_67) (hw _ w_61) (hw _ w_68) (by decide) ((cCod_2_1 l Z a0 hw [] t153 k153 _ h153 n0 (Nat.le_trans Z0 E153.1) V153).back D153 1 (hw _ w_68) (hw _ w_61) (by decide) (by decide)) rfl [(.ref t153), (.int (2 : Int32))] rfl (lenOf pd_6 rfl) rfl (Nat.le_of_eq rfl) (by decide) (by decide) d_jdk_42m149_45 rfl ?_
    intro v157 T157 q157 D157
    subst q157
    show Go p e below _ (T157.setTop (mkF m 48 #[.val (.ref x), .val (.ref b), .val (.int (0 : Int32)), .val (.int (2 : Int32)), .val .null, .val (.ref t153)] [(.int (1 : Int32)), (.ref x)]))
    refine g_putF D157 51 (hw _ w_27) Via.refl (F_c.ext E153) (E_x.ext E153) (Or.inr ⟨(hw _ w_23), rfl, hnm⟩) (hw _ w_7) (ty := .byte) (by decide) rfl rfl (fun _ _ => trivial) d_jdk_42m149_48 rfl ?_
    intro T158 h158 W158 D158
    have N158 := Fr.snoc D158.st NF153 gx
    have F158 := (F_c.ext E153).same W158
    refine g_aloadN D158 52 d_jdk_42m149_51 rfl rfl rfl ?_
    refine g_aload D158 54 d_jdk_42m149_52 rfl rfl rfl ?_
    refine g_putF D158 57 (hw _ w_26) Via.refl ((F_v.ext E153).other W158 (Or.inr (slot_ne (Or.inr (hw _ w_22)) (Or.inr (hw _ w_23)) (by decide) (t := (.array .byte)) (t' := .byte) (by decide) (by decide)))) ((E_x.ext E153).wr W158) (Or.inr ⟨(hw _ w_22), rfl, hnm⟩) (hw _ w_7) (ty := (.array .byte)) (by decide) rfl rfl (fun _ _ => trivial) d_jdk_42m149_54 rfl ?_
    intro T159 h159 W159 D159
    have N159 := Fr.snoc D159.st N158 gx
    have F159 := ((F_v.ext E153).other W158 (Or.inr (slot_ne (Or.inr (hw _ w_22)) (Or.inr (hw _ w_23)) (by decide) (t := (.array .byte)) (t' := .byte) (by decide) (by decide)))).same W159
    exact r_V D159 hret hlk d_jdk_42m149_57 ⟨rfl, N159, ((((Keep.refl _ [x]).ext E153).wr W158 (Or.inl (List.mem_of_getElem? (i := 0) rfl))).wr W159 (Or.inl (List.mem_of_getElem? (i := 0) rfl))), t153, k153, (1 : Int32), _, _, (((E_x.ext E153).wr W158).wr W159), (F158.other W159 (Or.inr (slot_ne (Or.inr (hw _ w_23)) (Or.inr (hw _ w_22)) (by decide) (t := .byte) (t' := (.array .byte)) (by decide) (by decide)))), F159, ((V153.other W158 (Ne.symm (Nat.ne_of_lt (Nat.lt_of_lt_of_le E_x.lt g153)))).other W159 (Ne.symm (Nat.ne_of_lt (Nat.lt_of_lt_of_le E_x.lt g153)))), hk, (c16_cons H0 (c16_cons H1 c16_nil)), Nat.le_of_ble_eq_true rfl⟩ (by decide) (by decide)
def Q_cN1_2 (Z : State) (x b : Addr) (kc : ClassId) (zc : Int32) (c0 c1 : Int32) (h0 : Heap) (n0 : Nat) : Option Value → Heap → List Loc → Prop := (fun v h L => v = none ∧ Fr n0 L ∧ Keep h0 h [x] ∧ TS Z h x [c0, c1])
theorem cN1_2 (l : Launch) (Z : State) (a0 : Array Value) (hw : tHW Z a0) (ws : List Jvm.Cond) (x b : Addr) (kc : ClassId) (zc : Int32) (c0 c1 : Int32) (h0 : Heap) (n0 : Nat) (Z0 : n0 ≤ h0.size) (OLD : Old Z n0 h0) (SA : tSA Z) (SH : tSH Z) (SL : tSL Z) (CS : tCS Z zc) (hzc : ¬ zc = 0) (E_x : Exa Z h0 x "java/lang/String") (F_v : Fld Z h0 x "java/lang/String" "value" "[B" .null) (F_c : Fld Z h0 x "java/lang/String" "coder" "B" (.int (0 : Int32))) (gx : n0 ≤ x) (V_b : Arv Z h0 b kc .char (2 : Int32) [(.int c0), (.int c1)] (.int (0 : Int32))) (H0 : C16 c0) (H1 : C16 c1) :
    Con l (⟨"java/lang/String", "<init>", "([C)V"⟩ : MethodName) jdk_42_method_3_code 2 none ws ({ frames := 5, cells := 2, slots := 6, locals := 74 } : Room) Z #[(.ref x), (.ref b)] h0 (Q_cN1_2 Z x b kc zc c0 c1 h0 n0) 2 6 := by
  refine enter (plainFor_of_name pn_1) ?_
  intro p e s m below meth c s₁ hnm hret hlk D0
  rw [ef_cN1_2 m x b]
  refine g_aloadN D0 1 d_jdk_42m3_0 rfl rfl rfl ?_
  refine g_aloadN D0 2 d_jdk_42m3_1 rfl rfl rfl ?_
  refine g_iconst D0 3 (0 : Int32) d_jdk_42m3_2 rfl rfl ?_
  refine g_aloadN D0 4 d_jdk_42m3_3 rfl rfl rfl ?_
  refine g_alen D0 5 V_b d_jdk_42m3_4 rfl ?_
  refine g_aconst D0 6 d_jdk_42m3_5 rfl ?_
  refine g_callN D0 9 rfl (hw _ w_13) (hw _ w_14) (hw _ w_16) (by decide) ((cN4_2 l Z a0 hw [] x b kc zc c0 c1 h0 n0 Z0 OLD SA SH SL CS hzc E_x F_v F_c gx V_b H0 H1).back D0 0 (hw _ w_16) (hw _ w_8) (by decide) (by decide)) rfl [(.ref b), (.int (0 : Int32)), (.int (2 : Int32)), .null] rfl (lenOf pd_7 rfl) rfl (Nat.le_of_eq rfl) (by decide) (by decide) (fun _ _ _ _ => trivial) d_jdk_42m3_6 rfl ?_
  intro v160 T160 h160 L160 q160 D160
  obtain ⟨rfl, N1, K1, X1⟩ := q160
  rw [List.nil_append] at D160
  show Go p e below _ (T160.setTop (mkF m 9 #[.val (.ref x), .val (.ref b)] []))
  exact r_V D160 hret hlk d_jdk_42m3_9 ⟨rfl, N1, K1, X1⟩ (by decide) (by decide)
theorem cNL_3 (l : Launch) (Z : State) (a0 : Array Value) (hw : tHW Z a0) (ws : List Jvm.Cond)  (h0 : Heap) (n0 : Nat) (Z0 : n0 ≤ h0.size)  :
    Con l (⟨"java/lang/StringUTF16", "newBytesLength", "(I)I"⟩ : MethodName) jdk_52_method_3_code 1 (some .int) ws ({ frames := 0, cells := 0, slots := 0, locals := 0 } : Room) Z #[(.int (3 : Int32))] h0 (fun v h L => v = some (.int (6 : Int32)) ∧ L = [] ∧ h = h0) 0 0 := by
  refine enter (plainFor_of_name pn_0) ?_
  intro p e s m below meth c s₁ hnm hret hlk D0
  rw [ef_cNL_3 m]
  refine g_iloadN D0 1 d_jdk_52m3_0 rfl rfl ?_
  refine g_ifY D0 12 d_jdk_52m3_1 (by decide) (by decide) (by decide) ?_
  refine g_iloadN D0 13 d_jdk_52m3_12 rfl rfl ?_
  refine g_ldcI D0 15 (hw _ w_106) d_jdk_52m3_13 rfl ?_
  refine g_icmpY D0 55 d_jdk_52m3_15 (by decide) (by decide) (by decide) ?_
  refine g_iloadN D0 56 d_jdk_52m3_55 rfl rfl ?_
  refine g_iconst D0 57 (1 : Int32) d_jdk_52m3_56 rfl rfl ?_
  refine g_ishl D0 58 d_jdk_52m3_57 rfl ?_
  rw [show ((3 : Int32) <<< ((1 : Int32) &&& 31)) = (6 : Int32) from by decide]
  exact r_I D0 hret hlk d_jdk_52m3_58 ⟨rfl, rfl, rfl⟩ (by decide) (by decide)
def Q_cNB_3 (Z : State)  (h0 : Heap) (n0 : Nat) : Option Value → Heap → List Loc → Prop := (fun v h L => ∃ a k, v = some (.ref a) ∧ h0.size ≤ a ∧ Fr n0 L ∧ Ext h0 h ∧ Arv Z h a k .byte (6 : Int32) [(.int (0 : Int32)), (.int (0 : Int32)), (.int (0 : Int32)), (.int (0 : Int32)), (.int (0 : Int32)), (.int (0 : Int32))] (.int (0 : Int32)))
theorem cNB_3 (l : Launch) (Z : State) (a0 : Array Value) (hw : tHW Z a0) (ws : List Jvm.Cond)  (h0 : Heap) (n0 : Nat) (Z0 : n0 ≤ h0.size)  :
    Con l (⟨"java/lang/StringUTF16", "newBytesFor", "(I)[B"⟩ : MethodName) jdk_52_method_2_code 1 (some (.array .byte)) ws ({ frames := 1, cells := 1, slots := 6, locals := 12 } : Room) Z #[(.int (3 : Int32))] h0 (Q_cNB_3 Z  h0 n0) 1 6 := by
  refine enter (plainFor_of_name pn_0) ?_
  intro p e s m below meth c s₁ hnm hret hlk D0
  rw [ef_cNB_3 m]
  refine g_iloadN D0 1 d_jdk_52m2_0 rfl rfl ?_
  refine g_callSp D0 4 (hw _ w_103) (hw _ w_104) (hw _ w_61) (hw _ w_105) (by decide) ((cNL_3 l Z a0 hw [] h0 n0 Z0).back D0 0 (hw _ w_105) (hw _ w_61) (by decide) (by decide)) rfl [(.int (3 : Int32))] rfl (lenOf pd_0 rfl) rfl (Nat.le_of_eq rfl) (by decide) (by decide) d_jdk_52m2_1 rfl ?_
  intro v161 T161 q161 D161
  subst q161
  show Go p e below _ (T161.setTop (mkF m 4 #[.val (.int (3 : Int32))] [(.int (6 : Int32))]))
  refine g_newP D161 6 (aty := .byte) (hw _ w_21) d_jdk_52m2_4 (by decide) (cap := 6) (by decide) (by decide) (by decide) (by decide) (fun _ _ => trivial) rfl ?_
  intro T162 h162 a162 k162 g162 E162 V162 D162
  have V162' : Arv Z h162 a162 k162 .byte (6 : Int32) [(.int (0 : Int32)), (.int (0 : Int32)), (.int (0 : Int32)), (.int (0 : Int32)), (.int (0 : Int32)), (.int (0 : Int32))] (.int (0 : Int32)) := V162.pad (pad_rep [] (.int (0 : Int32)) 6)
  exact r_A D162 hret rfl rfl hlk d_jdk_52m2_6 ⟨a162, _, rfl, (Nat.le_trans (Nat.le_refl _) (Nat.le_of_eq g162.symm)), (Fr.nil n0), Keep.toExt ((Keep.refl _ []).ext E162), V162'⟩ (by decide) (by decide)
def Q_cPut_3_0 (Z : State) (t : Addr) (kb : ClassId) (ch : Int32) (v0 v1 v2 v3 v4 v5 : Value) (h0 : Heap) (n0 : Nat) : Option Value → Heap → List Loc → Prop := (fun v h L => v = none ∧ Fr n0 L ∧ Keep h0 h [t] ∧ Arv Z h t kb .byte (6 : Int32) [(.int (StrChars.lo8 ch)), (.int (StrChars.hi8 ch)), v2, v3, v4, v5] (.int (0 : Int32)))
theorem cPut_3_0 (l : Launch) (Z : State) (a0 : Array Value) (hw : tHW Z a0) (ws : List Jvm.Cond) (t : Addr) (kb : ClassId) (ch : Int32) (v0 v1 v2 v3 v4 v5 : Value) (h0 : Heap) (n0 : Nat) (Z0 : n0 ≤ h0.size) (OLD : Old Z n0 h0) (SA : tSA Z) (SH : tSH Z) (SL : tSL Z) (V_t : Arv Z h0 t kb .byte (6 : Int32) [v0, v1, v2, v3, v4, v5] (.int (0 : Int32))) (gt : n0 ≤ t) :
    Con l (⟨"java/lang/StringUTF16", "putChar", "([BII)V"⟩ : MethodName) jdk_52_method_4_code 3 none ws ({ frames := 0, cells := 0, slots := 0, locals := 0 } : Room) Z #[(.ref t), (.int (0 : Int32)), (.int ch)] h0 (Q_cPut_3_0 Z t kb ch v0 v1 v2 v3 v4 v5 h0 n0) 0 0 := by
  refine enter (plainFor_of_name pn_0) ?_
  intro p e s m below meth c s₁ hnm hret hlk D0
  rw [ef_cPut_3_0 m t ch]
  refine g_getS D0 3 (hw _ w_110) Via.refl (SA.ext OLD.2) d_jdk_52m4_0 rfl ?_
  intro T163 D163
  refine g_ifY D163 28 d_jdk_52m4_3 (by decide) (by decide) (by decide) ?_
  refine g_iloadN D163 29 d_jdk_52m4_28 rfl rfl ?_
  refine g_iconst D163 30 (1 : Int32) d_jdk_52m4_29 rfl rfl ?_
  refine g_ishl D163 31 d_jdk_52m4_30 rfl ?_
  rw [show ((0 : Int32) <<< ((1 : Int32) &&& 31)) = (0 : Int32) from by decide]
  refine g_istoreN D163 32 #[.val (.ref t), .val (.int (0 : Int32)), .val (.int ch)] d_jdk_52m4_31 rfl rfl ?_
  refine g_aloadN D163 33 d_jdk_52m4_32 rfl rfl rfl ?_
  refine g_iloadN D163 34 d_jdk_52m4_33 rfl rfl ?_
  refine g_iinc D163 37 (1 : Int32) #[.val (.ref t), .val (.int ((0 : Int32) + (1 : Int32))), .val (.int ch)] d_jdk_52m4_34 rfl rfl rfl rfl ?_
  rw [show ((0 : Int32) + (1 : Int32)) = (1 : Int32) from by decide]
  refine g_iloadN D163 38 d_jdk_52m4_37 rfl rfl ?_
  refine g_getS D163 41 (hw _ w_111) Via.refl (SH.ext OLD.2) d_jdk_52m4_38 rfl ?_
  intro T164 D164
  refine g_ishr D164 42 d_jdk_52m4_41 rfl ?_
  refine g_i2b D164 43 d_jdk_52m4_42 rfl ?_
  refine g_bastore D164 44 V_t ⟨by decide, by decide⟩ 0 (by decide) (Nat.le_of_ble_eq_true rfl) (fun _ _ => trivial) d_jdk_52m4_43 rfl ?_
  intro T165 h165 W165 V165 D165
  rw [nb_lo ch] at V165
  replace V165 : Arv Z h165 t kb .byte (6 : Int32) [(.int (StrChars.lo8 ch)), v1, v2, v3, v4, v5] (.int (0 : Int32)) := V165
  have N165 := Fr.snoc D165.st (Fr.nil n0) gt
  refine g_aloadN D165 45 d_jdk_52m4_44 rfl rfl rfl ?_
  refine g_iloadN D165 46 d_jdk_52m4_45 rfl rfl ?_
  refine g_iloadN D165 47 d_jdk_52m4_46 rfl rfl ?_
  refine g_getS D165 50 (hw _ w_112) Via.refl (SL.ext (OLD.wr W165 gt).2) d_jdk_52m4_47 rfl ?_
  intro T166 D166
  refine g_ishr D166 51 d_jdk_52m4_50 rfl ?_
  refine g_i2b D166 52 d_jdk_52m4_51 rfl ?_
  refine g_bastore D166 53 V165 ⟨by decide, by decide⟩ 1 (by decide) (Nat.le_of_ble_eq_true rfl) (fun _ _ => trivial) d_jdk_52m4_52 rfl ?_
  intro T167 h167 W167 V167 D167
  rw [nb_hi ch] at V167
  replace V167 : Arv Z h167 t kb .byte (6 : Int32) [(.int (StrChars.lo8 ch)), (.int (StrChars.hi8 ch)), v2, v3, v4, v5] (.int (0 : Int32)) := V167
  have N167 := Fr.snoc D167.st N165 gt
  exact r_V D167 hret hlk d_jdk_52m4_53 ⟨rfl, N167, (((Keep.refl _ [t]).wr W165 (Or.inl (List.mem_of_getElem? (i := 0) rfl))).wr W167 (Or.inl (List.mem_of_getElem? (i := 0) rfl))), V167⟩ (by decide) (by decide)
def Q_cPut_3_1 (Z : State) (t : Addr) (kb : ClassId) (ch : Int32) (v0 v1 v2 v3 v4 v5 : Value) (h0 : Heap) (n0 : Nat) : Option Value → Heap → List Loc → Prop := (fun v h L => v = none ∧ Fr n0 L ∧ Keep h0 h [t] ∧ Arv Z h t kb .byte (6 : Int32) [v0, v1, (.int (StrChars.lo8 ch)), (.int (StrChars.hi8 ch)), v4, v5] (.int (0 : Int32)))
theorem cPut_3_1 (l : Launch) (Z : State) (a0 : Array Value) (hw : tHW Z a0) (ws : List Jvm.Cond) (t : Addr) (kb : ClassId) (ch : Int32) (v0 v1 v2 v3 v4 v5 : Value) (h0 : Heap) (n0 : Nat) (Z0 : n0 ≤ h0.size) (OLD : Old Z n0 h0) (SA : tSA Z) (SH : tSH Z) (SL : tSL Z) (V_t : Arv Z h0 t kb .byte (6 : Int32) [v0, v1, v2, v3, v4, v5] (.int (0 : Int32))) (gt : n0 ≤ t) :
    Con l (⟨"java/lang/StringUTF16", "putChar", "([BII)V"⟩ : MethodName) jdk_52_method_4_code 3 none ws ({ frames := 0, cells := 0, slots := 0, locals := 0 } : Room) Z #[(.ref t), (.int (1 : Int32)), (.int ch)] h0 (Q_cPut_3_1 Z t kb ch v0 v1 v2 v3 v4 v5 h0 n0) 0 0 := by
  refine enter (plainFor_of_name pn_0) ?_
  intro p e s m below meth c s₁ hnm hret hlk D0
  rw [ef_cPut_3_1 m t ch]
  refine g_getS D0 3 (hw _ w_110) Via.refl (SA.ext OLD.2) d_jdk_52m4_0 rfl ?_
  intro T168 D168
  refine g_ifY D168 28 d_jdk_52m4_3 (by decide) (by decide) (by decide) ?_
  refine g_iloadN D168 29 d_jdk_52m4_28 rfl rfl ?_
  refine g_iconst D168 30 (1 : Int32) d_jdk_52m4_29 rfl rfl ?_
  refine g_ishl D168 31 d_jdk_52m4_30 rfl ?_
  rw [show ((1 : Int32) <<< ((1 : Int32) &&& 31)) = (2 : Int32) from by decide]
  refine g_istoreN D168 32 #[.val (.ref t), .val (.int (2 : Int32)), .val (.int ch)] d_jdk_52m4_31 rfl rfl ?_
  refine g_aloadN D168 33 d_jdk_52m4_32 rfl rfl rfl ?_
  refine g_iloadN D168 34 d_jdk_52m4_33 rfl rfl ?_
  refine g_iinc D168 37 (1 : Int32) #[.val (.ref t), .val (.int ((2 : Int32) + (1 : Int32))), .val (.int ch)] d_jdk_52m4_34 rfl rfl rfl rfl ?_
  rw [show ((2 : Int32) + (1 : Int32)) = (3 : Int32) from by decide]
  refine g_iloadN D168 38 d_jdk_52m4_37 rfl rfl ?_
  refine g_getS D168 41 (hw _ w_111) Via.refl (SH.ext OLD.2) d_jdk_52m4_38 rfl ?_
  intro T169 D169
  refine g_ishr D169 42 d_jdk_52m4_41 rfl ?_
  refine g_i2b D169 43 d_jdk_52m4_42 rfl ?_
  refine g_bastore D169 44 V_t ⟨by decide, by decide⟩ 2 (by decide) (Nat.le_of_ble_eq_true rfl) (fun _ _ => trivial) d_jdk_52m4_43 rfl ?_
  intro T170 h170 W170 V170 D170
  rw [nb_lo ch] at V170
  replace V170 : Arv Z h170 t kb .byte (6 : Int32) [v0, v1, (.int (StrChars.lo8 ch)), v3, v4, v5] (.int (0 : Int32)) := V170
  have N170 := Fr.snoc D170.st (Fr.nil n0) gt
  refine g_aloadN D170 45 d_jdk_52m4_44 rfl rfl rfl ?_
  refine g_iloadN D170 46 d_jdk_52m4_45 rfl rfl ?_
  refine g_iloadN D170 47 d_jdk_52m4_46 rfl rfl ?_
  refine g_getS D170 50 (hw _ w_112) Via.refl (SL.ext (OLD.wr W170 gt).2) d_jdk_52m4_47 rfl ?_
  intro T171 D171
  refine g_ishr D171 51 d_jdk_52m4_50 rfl ?_
  refine g_i2b D171 52 d_jdk_52m4_51 rfl ?_
  refine g_bastore D171 53 V170 ⟨by decide, by decide⟩ 3 (by decide) (Nat.le_of_ble_eq_true rfl) (fun _ _ => trivial) d_jdk_52m4_52 rfl ?_
  intro T172 h172 W172 V172 D172
  rw [nb_hi ch] at V172
  replace V172 : Arv Z h172 t kb .byte (6 : Int32) [v0, v1, (.int (StrChars.lo8 ch)), (.int (StrChars.hi8 ch)), v4, v5] (.int (0 : Int32)) := V172
  have N172 := Fr.snoc D172.st N170 gt
  exact r_V D172 hret hlk d_jdk_52m4_53 ⟨rfl, N172, (((Keep.refl _ [t]).wr W170 (Or.inl (List.mem_of_getElem? (i := 0) rfl))).wr W172 (Or.inl (List.mem_of_getElem? (i := 0) rfl))), V172⟩ (by decide) (by decide)
def Q_cPut_3_2 (Z : State) (t : Addr) (kb : ClassId) (ch : Int32) (v0 v1 v2 v3 v4 v5 : Value) (h0 : Heap) (n0 : Nat) : Option Value → Heap → List Loc → Prop := (fun v h L => v = none ∧ Fr n0 L ∧ Keep h0 h [t] ∧ Arv Z h t kb .byte (6 : Int32) [v0, v1, v2, v3, (.int (StrChars.lo8 ch)), (.int (StrChars.hi8 ch))] (.int (0 : Int32)))
theorem cPut_3_2 (l : Launch) (Z : State) (a0 : Array Value) (hw : tHW Z a0) (ws : List Jvm.Cond) (t : Addr) (kb : ClassId) (ch : Int32) (v0 v1 v2 v3 v4 v5 : Value) (h0 : Heap) (n0 : Nat) (Z0 : n0 ≤ h0.size) (OLD : Old Z n0 h0) (SA : tSA Z) (SH : tSH Z) (SL : tSL Z) (V_t : Arv Z h0 t kb .byte (6 : Int32) [v0, v1, v2, v3, v4, v5] (.int (0 : Int32))) (gt : n0 ≤ t) :
    Con l (⟨"java/lang/StringUTF16", "putChar", "([BII)V"⟩ : MethodName) jdk_52_method_4_code 3 none ws ({ frames := 0, cells := 0, slots := 0, locals := 0 } : Room) Z #[(.ref t), (.int (2 : Int32)), (.int ch)] h0 (Q_cPut_3_2 Z t kb ch v0 v1 v2 v3 v4 v5 h0 n0) 0 0 := by
  refine enter (plainFor_of_name pn_0) ?_
  intro p e s m below meth c s₁ hnm hret hlk D0
  rw [ef_cPut_3_2 m t ch]
  refine g_getS D0 3 (hw _ w_110) Via.refl (SA.ext OLD.2) d_jdk_52m4_0 rfl ?_
  intro T173 D173
  refine g_ifY D173 28 d_jdk_52m4_3 (by decide) (by decide) (by decide) ?_
  refine g_iloadN D173 29 d_jdk_52m4_28 rfl rfl ?_
  refine g_iconst D173 30 (1 : Int32) d_jdk_52m4_29 rfl rfl ?_
  refine g_ishl D173 31 d_jdk_52m4_30 rfl ?_
  rw [show ((2 : Int32) <<< ((1 : Int32) &&& 31)) = (4 : Int32) from by decide]
  refine g_istoreN D173 32 #[.val (.ref t), .val (.int (4 : Int32)), .val (.int ch)] d_jdk_52m4_31 rfl rfl ?_
  refine g_aloadN D173 33 d_jdk_52m4_32 rfl rfl rfl ?_
  refine g_iloadN D173 34 d_jdk_52m4_33 rfl rfl ?_
  refine g_iinc D173 37 (1 : Int32) #[.val (.ref t), .val (.int ((4 : Int32) + (1 : Int32))), .val (.int ch)] d_jdk_52m4_34 rfl rfl rfl rfl ?_
  rw [show ((4 : Int32) + (1 : Int32)) = (5 : Int32) from by decide]
  refine g_iloadN D173 38 d_jdk_52m4_37 rfl rfl ?_
  refine g_getS D173 41 (hw _ w_111) Via.refl (SH.ext OLD.2) d_jdk_52m4_38 rfl ?_
  intro T174 D174
  refine g_ishr D174 42 d_jdk_52m4_41 rfl ?_
  refine g_i2b D174 43 d_jdk_52m4_42 rfl ?_
  refine g_bastore D174 44 V_t ⟨by decide, by decide⟩ 4 (by decide) (Nat.le_of_ble_eq_true rfl) (fun _ _ => trivial) d_jdk_52m4_43 rfl ?_
  intro T175 h175 W175 V175 D175
  rw [nb_lo ch] at V175
  replace V175 : Arv Z h175 t kb .byte (6 : Int32) [v0, v1, v2, v3, (.int (StrChars.lo8 ch)), v5] (.int (0 : Int32)) := V175
  have N175 := Fr.snoc D175.st (Fr.nil n0) gt
  refine g_aloadN D175 45 d_jdk_52m4_44 rfl rfl rfl ?_
  refine g_iloadN D175 46 d_jdk_52m4_45 rfl rfl ?_
  refine g_iloadN D175 47 d_jdk_52m4_46 rfl rfl ?_
  refine g_getS D175 50 (hw _ w_112) Via.refl (SL.ext (OLD.wr W175 gt).2) d_jdk_52m4_47 rfl ?_
  intro T176 D176
  refine g_ishr D176 51 d_jdk_52m4_50 rfl ?_
  refine g_i2b D176 52 d_jdk_52m4_51 rfl ?_
  refine g_bastore D176 53 V175 ⟨by decide, by decide⟩ 5 (by decide) (Nat.le_of_ble_eq_true rfl) (fun _ _ => trivial) d_jdk_52m4_52 rfl ?_
  intro T177 h177 W177 V177 D177
  rw [nb_hi ch] at V177
  replace V177 : Arv Z h177 t kb .byte (6 : Int32) [v0, v1, v2, v3, (.int (StrChars.lo8 ch)), (.int (StrChars.hi8 ch))] (.int (0 : Int32)) := V177
  have N177 := Fr.snoc D177.st N175 gt
  exact r_V D177 hret hlk d_jdk_52m4_53 ⟨rfl, N177, (((Keep.refl _ [t]).wr W175 (Or.inl (List.mem_of_getElem? (i := 0) rfl))).wr W177 (Or.inl (List.mem_of_getElem? (i := 0) rfl))), V177⟩ (by decide) (by decide)
def Q_cToB_3 (Z : State) (b : Addr) (kc : ClassId) (c0 c1 c2 : Int32) (h0 : Heap) (n0 : Nat) : Option Value → Heap → List Loc → Prop := (fun v h L => ∃ t k, v = some (.ref t) ∧ h0.size ≤ t ∧ Fr n0 L ∧ Ext h0 h ∧ Arv Z h t k .byte (6 : Int32) (StrChars.Road.wideBytes [c0, c1, c2]) (.int (0 : Int32)))
theorem cToB_3 (l : Launch) (Z : State) (a0 : Array Value) (hw : tHW Z a0) (ws : List Jvm.Cond) (b : Addr) (kc : ClassId) (c0 c1 c2 : Int32) (h0 : Heap) (n0 : Nat) (Z0 : n0 ≤ h0.size) (OLD : Old Z n0 h0) (SA : tSA Z) (SH : tSH Z) (SL : tSL Z) (V_b : Arv Z h0 b kc .char (3 : Int32) [(.int c0), (.int c1), (.int c2)] (.int (0 : Int32))) :
    Con l (⟨"java/lang/StringUTF16", "toBytes", "([CII)[B"⟩ : MethodName) jdk_52_method_14_code 5 (some (.array .byte)) ws ({ frames := 2, cells := 1, slots := 6, locals := 24 } : Room) Z #[(.ref b), (.int (0 : Int32)), (.int (3 : Int32))] h0 (Q_cToB_3 Z b kc c0 c1 c2 h0 n0) 1 6 := by
  refine enter (plainFor_of_name pn_0) ?_
  intro p e s m below meth c s₁ hnm hret hlk D0
  rw [ef_cToB_3 m b]
  refine g_iloadN D0 1 d_jdk_52m14_0 rfl rfl ?_
  refine g_callS D0 4 (hw _ w_100) (hw _ w_101) (hw _ w_61) (hw _ w_102) (by decide) ((cNB_3 l Z a0 hw [] h0 n0 Z0).back D0 0 (hw _ w_102) (hw _ w_61) (by decide) (by decide)) rfl [(.int (3 : Int32))] rfl (lenOf pd_1 rfl) rfl (Nat.le_of_eq rfl) (by decide) (by decide) (fun _ _ _ _ => trivial) d_jdk_52m14_1 rfl ?_
  intro v178 T178 h178 L178 q178 D178
  obtain ⟨t178, k178, rfl, g178, N178, E178, V178⟩ := q178
  have NF178 := Fr.app (Fr.nil n0) N178
  show Go p e below _ (T178.setTop (mkF m 4 #[.val (.ref b), .val (.int (0 : Int32)), .val (.int (3 : Int32)), .unset, .unset] [(.ref t178)]))
  refine g_astoreN D178 5 #[.val (.ref b), .val (.int (0 : Int32)), .val (.int (3 : Int32)), .val (.ref t178), .unset] d_jdk_52m14_4 rfl rfl rfl ?_
  refine g_iconst D178 6 (0 : Int32) d_jdk_52m14_5 rfl rfl ?_
  refine g_istore D178 8 #[.val (.ref b), .val (.int (0 : Int32)), .val (.int (3 : Int32)), .val (.ref t178), .val (.int (0 : Int32))] d_jdk_52m14_6 rfl rfl ?_
  refine g_iload D178 10 d_jdk_52m14_8 rfl rfl ?_
  refine g_iloadN D178 11 d_jdk_52m14_10 rfl rfl ?_
  refine g_icmpN D178 14 d_jdk_52m14_11 (by decide) rfl ?_
  refine g_aloadN D178 15 d_jdk_52m14_14 rfl rfl rfl ?_
  refine g_iload D178 17 d_jdk_52m14_15 rfl rfl ?_
  refine g_aloadN D178 18 d_jdk_52m14_17 rfl rfl rfl ?_
  refine g_iloadN D178 19 d_jdk_52m14_18 rfl rfl ?_
  refine g_caload D178 20 (V_b.ext E178) (v := (.int c0)) ⟨by decide, by decide⟩ rfl d_jdk_52m14_19 rfl ?_
  refine g_callS D178 23 (hw _ w_107) (hw _ w_108) (hw _ w_61) (hw _ w_109) (by decide) ((cPut_3_0 l Z a0 hw [] t178 k178 c0 (.int (0 : Int32)) (.int (0 : Int32)) (.int (0 : Int32)) (.int (0 : Int32)) (.int (0 : Int32)) (.int (0 : Int32)) h178 n0 (Nat.le_trans Z0 E178.1) (OLD.ext E178) SA SH SL V178 (Nat.le_trans Z0 g178)).back D178 0 (hw _ w_109) (hw _ w_61) (by decide) (by decide)) rfl [(.ref t178), (.int (0 : Int32)), (.int c0)] rfl (lenOf pd_2 rfl) rfl (Nat.le_of_eq rfl) (by decide) (by decide) (fun _ _ _ _ => trivial) d_jdk_52m14_20 rfl ?_
  intro v179 T179 h179 L179 q179 D179
  obtain ⟨rfl, N179, K179, V179⟩ := q179
  have NF179 := Fr.app NF178 N179
  show Go p e below _ (T179.setTop (mkF m 23 #[.val (.ref b), .val (.int (0 : Int32)), .val (.int (3 : Int32)), .val (.ref t178), .val (.int (0 : Int32))] []))
  refine g_iinc D179 26 (1 : Int32) #[.val (.ref b), .val (.int ((0 : Int32) + (1 : Int32))), .val (.int (3 : Int32)), .val (.ref t178), .val (.int (0 : Int32))] d_jdk_52m14_23 rfl rfl rfl rfl ?_
  rw [show ((0 : Int32) + (1 : Int32)) = (1 : Int32) from by decide]
  refine g_iinc D179 29 (1 : Int32) #[.val (.ref b), .val (.int (1 : Int32)), .val (.int (3 : Int32)), .val (.ref t178), .val (.int ((0 : Int32) + (1 : Int32)))] d_jdk_52m14_26 rfl rfl rfl rfl ?_
  rw [show ((0 : Int32) + (1 : Int32)) = (1 : Int32) from by decide]
  refine g_goto D179 8 d_jdk_52m14_29 (by decide) (by decide) ?_
  refine g_iload D179 10 d_jdk_52m14_8 rfl rfl ?_
  refine g_iloadN D179 11 d_jdk_52m14_10 rfl rfl ?_
  refine g_icmpN D179 14 d_jdk_52m14_11 (by decide) rfl ?_
  refine g_aloadN D179 15 d_jdk_52m14_14 rfl rfl rfl ?_
  refine g_iload D179 17 d_jdk_52m14_15 rfl rfl ?_
  refine g_aloadN D179 18 d_jdk_52m14_17 rfl rfl rfl ?_
  refine g_iloadN D179 19 d_jdk_52m14_18 rfl rfl ?_
  refine g_caload D179 20 ((V_b.ext E178).keep K179 (ninS (Nat.ne_of_lt (Nat.lt_of_lt_of_le V_b.lt g178)) nin0)) (v := (.int c1)) ⟨by decide, by decide⟩ rfl d_jdk_52m14_19 rfl ?_
  refine g_callS D179 23 (hw _ w_107) (hw _ w_108) (hw _ w_61) (hw _ w_109) (by decide) ((cPut_3_1 l Z a0 hw [] t178 k178 c1 (.int (StrChars.lo8 c0)) (.int (StrChars.hi8 c0)) (.int (0 : Int32)) (.int (0 : Int32)) (.int (0 : Int32)) (.int (0 : Int32)) h179 n0 (Nat.le_trans (Nat.le_trans Z0 E178.1) K179.1) ((OLD.ext E178).keep K179 (allS (Nat.le_trans Z0 g178) all0)) SA SH SL V179 (Nat.le_trans Z0 g178)).back D179 0 (hw _ w_109) (hw _ w_61) (by decide) (by decide)) rfl [(.ref t178), (.int (1 : Int32)), (.int c1)] rfl (lenOf pd_2 rfl) rfl (Nat.le_of_eq rfl) (by decide) (by decide) (fun _ _ _ _ => trivial) d_jdk_52m14_20 rfl ?_
  intro v180 T180 h180 L180 q180 D180
  obtain ⟨rfl, N180, K180, V180⟩ := q180
  have NF180 := Fr.app NF179 N180
  show Go p e below _ (T180.setTop (mkF m 23 #[.val (.ref b), .val (.int (1 : Int32)), .val (.int (3 : Int32)), .val (.ref t178), .val (.int (1 : Int32))] []))
  refine g_iinc D180 26 (1 : Int32) #[.val (.ref b), .val (.int ((1 : Int32) + (1 : Int32))), .val (.int (3 : Int32)), .val (.ref t178), .val (.int (1 : Int32))] d_jdk_52m14_23 rfl rfl rfl rfl ?_
  rw [show ((1 : Int32) + (1 : Int32)) = (2 : Int32) from by decide]
  refine g_iinc D180 29 (1 : Int32) #[.val (.ref b), .val (.int (2 : Int32)), .val (.int (3 : Int32)), .val (.ref t178), .val (.int ((1 : Int32) + (1 : Int32)))] d_jdk_52m14_26 rfl rfl rfl rfl ?_
  rw [show ((1 : Int32) + (1 : Int32)) = (2 : Int32) from by decide]
  refine g_goto D180 8 d_jdk_52m14_29 (by decide) (by decide) ?_
  refine g_iload D180 10 d_jdk_52m14_8 rfl rfl ?_
  refine g_iloadN D180 11 d_jdk_52m14_10 rfl rfl ?_
  refine g_icmpN D180 14 d_jdk_52m14_11 (by decide) rfl ?_
  refine g_aloadN D180 15 d_jdk_52m14_14 rfl rfl rfl ?_
  refine g_iload D180 17 d_jdk_52m14_15 rfl rfl ?_
  refine g_aloadN D180 18 d_jdk_52m14_17 rfl rfl rfl ?_
  refine g_iloadN D180 19 d_jdk_52m14_18 rfl rfl ?_
  refine g_caload D180 20 (((V_b.ext E178).keep K179 (ninS (Nat.ne_of_lt (Nat.lt_of_lt_of_le V_b.lt g178)) nin0)).keep K180 (ninS (Nat.ne_of_lt (Nat.lt_of_lt_of_le V_b.lt g178)) nin0)) (v := (.int c2)) ⟨by decide, by decide⟩ rfl d_jdk_52m14_19 rfl ?_
  refine g_callS D180 23 (hw _ w_107) (hw _ w_108) (hw _ w_61) (hw _ w_109) (by decide) ((cPut_3_2 l Z a0 hw [] t178 k178 c2 (.int (StrChars.lo8 c0)) (.int (StrChars.hi8 c0)) (.int (StrChars.lo8 c1)) (.int (StrChars.hi8 c1)) (.int (0 : Int32)) (.int (0 : Int32)) h180 n0 (Nat.le_trans (Nat.le_trans (Nat.le_trans Z0 E178.1) K179.1) K180.1) (((OLD.ext E178).keep K179 (allS (Nat.le_trans Z0 g178) all0)).keep K180 (allS (Nat.le_trans Z0 g178) all0)) SA SH SL V180 (Nat.le_trans Z0 g178)).back D180 0 (hw _ w_109) (hw _ w_61) (by decide) (by decide)) rfl [(.ref t178), (.int (2 : Int32)), (.int c2)] rfl (lenOf pd_2 rfl) rfl (Nat.le_of_eq rfl) (by decide) (by decide) (fun _ _ _ _ => trivial) d_jdk_52m14_20 rfl ?_
  intro v181 T181 h181 L181 q181 D181
  obtain ⟨rfl, N181, K181, V181⟩ := q181
  have NF181 := Fr.app NF180 N181
  show Go p e below _ (T181.setTop (mkF m 23 #[.val (.ref b), .val (.int (2 : Int32)), .val (.int (3 : Int32)), .val (.ref t178), .val (.int (2 : Int32))] []))
  refine g_iinc D181 26 (1 : Int32) #[.val (.ref b), .val (.int ((2 : Int32) + (1 : Int32))), .val (.int (3 : Int32)), .val (.ref t178), .val (.int (2 : Int32))] d_jdk_52m14_23 rfl rfl rfl rfl ?_
  rw [show ((2 : Int32) + (1 : Int32)) = (3 : Int32) from by decide]
  refine g_iinc D181 29 (1 : Int32) #[.val (.ref b), .val (.int (3 : Int32)), .val (.int (3 : Int32)), .val (.ref t178), .val (.int ((2 : Int32) + (1 : Int32)))] d_jdk_52m14_26 rfl rfl rfl rfl ?_
  rw [show ((2 : Int32) + (1 : Int32)) = (3 : Int32) from by decide]
  refine g_goto D181 8 d_jdk_52m14_29 (by decide) (by decide) ?_
  refine g_iload D181 10 d_jdk_52m14_8 rfl rfl ?_
  refine g_iloadN D181 11 d_jdk_52m14_10 rfl rfl ?_
  refine g_icmpY D181 32 d_jdk_52m14_11 (by decide) (by decide) (by decide) ?_
  refine g_aloadN D181 33 d_jdk_52m14_32 rfl rfl rfl ?_
  exact r_A D181 hret rfl rfl hlk d_jdk_52m14_33 ⟨t178, k178, rfl, (Nat.le_trans (Nat.le_refl _) g178), NF181, Keep.toExt (((((Keep.refl _ []).ext E178).trans K179 (allS (Or.inr (Nat.le_trans (Nat.le_refl _) g178)) all0)).trans K180 (allS (Or.inr (Nat.le_trans (Nat.le_refl _) g178)) all0)).trans K181 (allS (Or.inr (Nat.le_trans (Nat.le_refl _) g178)) all0)), V181⟩ (by decide) (by decide)
def Q_cC5_3 (Z : State) (b d : Addr) (kc kd : ClassId) (c0 c1 c2 : Int32) (h0 : Heap) (n0 : Nat) : Option Value → Heap → List Loc → Prop := (fun v h L => Fr n0 L ∧ Keep h0 h [d] ∧ (((255 : Int32) < c0 ∧ v = some (.int (0 : Int32))) ∨ (¬ (255 : Int32) < c0 ∧ (255 : Int32) < c1 ∧ v = some (.int (1 : Int32))) ∨ (¬ (255 : Int32) < c0 ∧ ¬ (255 : Int32) < c1 ∧ (255 : Int32) < c2 ∧ v = some (.int (2 : Int32))) ∨ (¬ (255 : Int32) < c0 ∧ ¬ (255 : Int32) < c1 ∧ ¬ (255 : Int32) < c2 ∧ v = some (.int (3 : Int32)) ∧ Arv Z h d kd .byte (3 : Int32) [(.int (StrChars.lo8 c0)), (.int (StrChars.lo8 c1)), (.int (StrChars.lo8 c2))] (.int (0 : Int32)))))
theorem cC5_3 (l : Launch) (Z : State) (a0 : Array Value) (hw : tHW Z a0) (ws : List Jvm.Cond) (b d : Addr) (kc kd : ClassId) (c0 c1 c2 : Int32) (h0 : Heap) (n0 : Nat) (Z0 : n0 ≤ h0.size) (V_b : Arv Z h0 b kc .char (3 : Int32) [(.int c0), (.int c1), (.int c2)] (.int (0 : Int32))) (V_d : Arv Z h0 d kd .byte (3 : Int32) [(.int (0 : Int32)), (.int (0 : Int32)), (.int (0 : Int32))] (.int (0 : Int32))) (gd : n0 ≤ d) (nbd : b ≠ d) :
    Con l (⟨"java/lang/StringUTF16", "compress", "([CI[BII)I"⟩ : MethodName) jdk_52_method_21_code 7 (some .int) ws ({ frames := 0, cells := 0, slots := 0, locals := 0 } : Room) Z #[(.ref b), (.int (0 : Int32)), (.ref d), (.int (0 : Int32)), (.int (3 : Int32))] h0 (Q_cC5_3 Z b d kc kd c0 c1 c2 h0 n0) 0 0 := by
  refine enter (plainFor_of_name pn_0) ?_
  intro p e s m below meth c s₁ hnm hret hlk D0
  rw [ef_cC5_3 m b d]
  refine g_iconst D0 1 (0 : Int32) d_jdk_52m21_0 rfl rfl ?_
  refine g_istore D0 3 #[.val (.ref b), .val (.int (0 : Int32)), .val (.ref d), .val (.int (0 : Int32)), .val (.int (3 : Int32)), .val (.int (0 : Int32)), .unset] d_jdk_52m21_1 rfl rfl ?_
  refine g_iload D0 5 d_jdk_52m21_3 rfl rfl ?_
  refine g_iload D0 7 d_jdk_52m21_5 rfl rfl ?_
  refine g_icmpN D0 10 d_jdk_52m21_7 (by decide) rfl ?_
  refine g_aloadN D0 11 d_jdk_52m21_10 rfl rfl rfl ?_
  refine g_iloadN D0 12 d_jdk_52m21_11 rfl rfl ?_
  refine g_caload D0 13 V_b (v := (.int c0)) ⟨by decide, by decide⟩ rfl d_jdk_52m21_12 rfl ?_
  refine g_istore D0 15 #[.val (.ref b), .val (.int (0 : Int32)), .val (.ref d), .val (.int (0 : Int32)), .val (.int (3 : Int32)), .val (.int (0 : Int32)), .val (.int c0)] d_jdk_52m21_13 rfl rfl ?_
  refine g_iload D0 17 d_jdk_52m21_15 rfl rfl ?_
  refine g_sipush D0 20 (255 : Int32) d_jdk_52m21_17 rfl rfl ?_
  by_cases q0 : (255 : Int32) < c0
  · refine g_icmpN D0 23 d_jdk_52m21_20 (tlt q0).2.2.2 rfl ?_
    refine g_iload D0 25 d_jdk_52m21_23 rfl rfl ?_
    exact r_I D0 hret hlk d_jdk_52m21_25 ⟨(Fr.nil n0), (Keep.refl _ [d]), Or.inl ⟨q0, rfl⟩⟩ (by decide) (by decide)
  refine g_icmpY D0 26 d_jdk_52m21_20 (flt q0).2.2.2 (by decide) (by decide) ?_
  refine g_aloadN D0 27 d_jdk_52m21_26 rfl rfl rfl ?_
  refine g_iloadN D0 28 d_jdk_52m21_27 rfl rfl ?_
  refine g_iload D0 30 d_jdk_52m21_28 rfl rfl ?_
  refine g_i2b D0 31 d_jdk_52m21_30 rfl ?_
  refine g_bastore D0 32 V_d ⟨by decide, by decide⟩ 0 (by decide) (Nat.le_of_ble_eq_true rfl) (fun _ _ => trivial) d_jdk_52m21_31 rfl ?_
  intro T182 h182 W182 V182 D182
  rw [nb_b c0] at V182
  replace V182 : Arv Z h182 d kd .byte (3 : Int32) [(.int (StrChars.lo8 c0)), (.int (0 : Int32)), (.int (0 : Int32))] (.int (0 : Int32)) := V182
  have N182 := Fr.snoc D182.st (Fr.nil n0) gd
  refine g_iinc D182 35 (1 : Int32) #[.val (.ref b), .val (.int ((0 : Int32) + (1 : Int32))), .val (.ref d), .val (.int (0 : Int32)), .val (.int (3 : Int32)), .val (.int (0 : Int32)), .val (.int c0)] d_jdk_52m21_32 rfl rfl rfl rfl ?_
  rw [show ((0 : Int32) + (1 : Int32)) = (1 : Int32) from by decide]
  refine g_iinc D182 38 (1 : Int32) #[.val (.ref b), .val (.int (1 : Int32)), .val (.ref d), .val (.int ((0 : Int32) + (1 : Int32))), .val (.int (3 : Int32)), .val (.int (0 : Int32)), .val (.int c0)] d_jdk_52m21_35 rfl rfl rfl rfl ?_
  rw [show ((0 : Int32) + (1 : Int32)) = (1 : Int32) from by decide]
  refine g_iinc D182 41 (1 : Int32) #[.val (.ref b), .val (.int (1 : Int32)), .val (.ref d), .val (.int (1 : Int32)), .val (.int (3 : Int32)), .val (.int ((0 : Int32) + (1 : Int32))), .val (.int c0)] d_jdk_52m21_38 rfl rfl rfl rfl ?_
  rw [show ((0 : Int32) + (1 : Int32)) = (1 : Int32) from by decide]
  refine g_goto D182 3 d_jdk_52m21_41 (by decide) (by decide) ?_
  refine g_iload D182 5 d_jdk_52m21_3 rfl rfl ?_
  refine g_iload D182 7 d_jdk_52m21_5 rfl rfl ?_
  refine g_icmpN D182 10 d_jdk_52m21_7 (by decide) rfl ?_
  refine g_aloadN D182 11 d_jdk_52m21_10 rfl rfl rfl ?_
  refine g_iloadN D182 12 d_jdk_52m21_11 rfl rfl ?_
  refine g_caload D182 13 (V_b.other W182 nbd) (v := (.int c1)) ⟨by decide, by decide⟩ rfl d_jdk_52m21_12 rfl ?_
  refine g_istore D182 15 #[.val (.ref b), .val (.int (1 : Int32)), .val (.ref d), .val (.int (1 : Int32)), .val (.int (3 : Int32)), .val (.int (1 : Int32)), .val (.int c1)] d_jdk_52m21_13 rfl rfl ?_
  refine g_iload D182 17 d_jdk_52m21_15 rfl rfl ?_
  refine g_sipush D182 20 (255 : Int32) d_jdk_52m21_17 rfl rfl ?_
  by_cases q1 : (255 : Int32) < c1
  · refine g_icmpN D182 23 d_jdk_52m21_20 (tlt q1).2.2.2 rfl ?_
    refine g_iload D182 25 d_jdk_52m21_23 rfl rfl ?_
    exact r_I D182 hret hlk d_jdk_52m21_25 ⟨N182, ((Keep.refl _ [d]).wr W182 (Or.inl (List.mem_of_getElem? (i := 0) rfl))), Or.inr (Or.inl ⟨q0, q1, rfl⟩)⟩ (by decide) (by decide)
  refine g_icmpY D182 26 d_jdk_52m21_20 (flt q1).2.2.2 (by decide) (by decide) ?_
  refine g_aloadN D182 27 d_jdk_52m21_26 rfl rfl rfl ?_
  refine g_iloadN D182 28 d_jdk_52m21_27 rfl rfl ?_
  refine g_iload D182 30 d_jdk_52m21_28 rfl rfl ?_
  refine g_i2b D182 31 d_jdk_52m21_30 rfl ?_
  refine g_bastore D182 32 V182 ⟨by decide, by decide⟩ 1 (by decide) (Nat.le_of_ble_eq_true rfl) (fun _ _ => trivial) d_jdk_52m21_31 rfl ?_
  intro T183 h183 W183 V183 D183
  rw [nb_b c1] at V183
  replace V183 : Arv Z h183 d kd .byte (3 : Int32) [(.int (StrChars.lo8 c0)), (.int (StrChars.lo8 c1)), (.int (0 : Int32))] (.int (0 : Int32)) := V183
  have N183 := Fr.snoc D183.st N182 gd
  refine g_iinc D183 35 (1 : Int32) #[.val (.ref b), .val (.int ((1 : Int32) + (1 : Int32))), .val (.ref d), .val (.int (1 : Int32)), .val (.int (3 : Int32)), .val (.int (1 : Int32)), .val (.int c1)] d_jdk_52m21_32 rfl rfl rfl rfl ?_
  rw [show ((1 : Int32) + (1 : Int32)) = (2 : Int32) from by decide]
  refine g_iinc D183 38 (1 : Int32) #[.val (.ref b), .val (.int (2 : Int32)), .val (.ref d), .val (.int ((1 : Int32) + (1 : Int32))), .val (.int (3 : Int32)), .val (.int (1 : Int32)), .val (.int c1)] d_jdk_52m21_35 rfl rfl rfl rfl ?_
  rw [show ((1 : Int32) + (1 : Int32)) = (2 : Int32) from by decide]
  refine g_iinc D183 41 (1 : Int32) #[.val (.ref b), .val (.int (2 : Int32)), .val (.ref d), .val (.int (2 : Int32)), .val (.int (3 : Int32)), .val (.int ((1 : Int32) + (1 : Int32))), .val (.int c1)] d_jdk_52m21_38 rfl rfl rfl rfl ?_
  rw [show ((1 : Int32) + (1 : Int32)) = (2 : Int32) from by decide]
  refine g_goto D183 3 d_jdk_52m21_41 (by decide) (by decide) ?_
  refine g_iload D183 5 d_jdk_52m21_3 rfl rfl ?_
  refine g_iload D183 7 d_jdk_52m21_5 rfl rfl ?_
  refine g_icmpN D183 10 d_jdk_52m21_7 (by decide) rfl ?_
  refine g_aloadN D183 11 d_jdk_52m21_10 rfl rfl rfl ?_
  refine g_iloadN D183 12 d_jdk_52m21_11 rfl rfl ?_
  refine g_caload D183 13 ((V_b.other W182 nbd).other W183 nbd) (v := (.int c2)) ⟨by decide, by decide⟩ rfl d_jdk_52m21_12 rfl ?_
  refine g_istore D183 15 #[.val (.ref b), .val (.int (2 : Int32)), .val (.ref d), .val (.int (2 : Int32)), .val (.int (3 : Int32)), .val (.int (2 : Int32)), .val (.int c2)] d_jdk_52m21_13 rfl rfl ?_
  refine g_iload D183 17 d_jdk_52m21_15 rfl rfl ?_
  refine g_sipush D183 20 (255 : Int32) d_jdk_52m21_17 rfl rfl ?_
  by_cases q2 : (255 : Int32) < c2
  · refine g_icmpN D183 23 d_jdk_52m21_20 (tlt q2).2.2.2 rfl ?_
    refine g_iload D183 25 d_jdk_52m21_23 rfl rfl ?_
    exact r_I D183 hret hlk d_jdk_52m21_25 ⟨N183, (((Keep.refl _ [d]).wr W182 (Or.inl (List.mem_of_getElem? (i := 0) rfl))).wr W183 (Or.inl (List.mem_of_getElem? (i := 0) rfl))), Or.inr (Or.inr (Or.inl ⟨q0, q1, q2, rfl⟩))⟩ (by decide) (by decide)
  refine g_icmpY D183 26 d_jdk_52m21_20 (flt q2).2.2.2 (by decide) (by decide) ?_
  refine g_aloadN D183 27 d_jdk_52m21_26 rfl rfl rfl ?_
  refine g_iloadN D183 28 d_jdk_52m21_27 rfl rfl ?_
  refine g_iload D183 30 d_jdk_52m21_28 rfl rfl ?_
  refine g_i2b D183 31 d_jdk_52m21_30 rfl ?_
  refine g_bastore D183 32 V183 ⟨by decide, by decide⟩ 2 (by decide) (Nat.le_of_ble_eq_true rfl) (fun _ _ => trivial) d_jdk_52m21_31 rfl ?_
  intro T184 h184 W184 V184 D184
  rw [nb_b c2] at V184
  replace V184 : Arv Z h184 d kd .byte (3 : Int32) [(.int (StrChars.lo8 c0)), (.int (StrChars.lo8 c1)), (.int (StrChars.lo8 c2))] (.int (0 : Int32)) := V184
  have N184 := Fr.snoc D184.st N183 gd
  refine g_iinc D184 35 (1 : Int32) #[.val (.ref b), .val (.int ((2 : Int32) + (1 : Int32))), .val (.ref d), .val (.int (2 : Int32)), .val (.int (3 : Int32)), .val (.int (2 : Int32)), .val (.int c2)] d_jdk_52m21_32 rfl rfl rfl rfl ?_
  rw [show ((2 : Int32) + (1 : Int32)) = (3 : Int32) from by decide]
  refine g_iinc D184 38 (1 : Int32) #[.val (.ref b), .val (.int (3 : Int32)), .val (.ref d), .val (.int ((2 : Int32) + (1 : Int32))), .val (.int (3 : Int32)), .val (.int (2 : Int32)), .val (.int c2)] d_jdk_52m21_35 rfl rfl rfl rfl ?_
  rw [show ((2 : Int32) + (1 : Int32)) = (3 : Int32) from by decide]
  refine g_iinc D184 41 (1 : Int32) #[.val (.ref b), .val (.int (3 : Int32)), .val (.ref d), .val (.int (3 : Int32)), .val (.int (3 : Int32)), .val (.int ((2 : Int32) + (1 : Int32))), .val (.int c2)] d_jdk_52m21_38 rfl rfl rfl rfl ?_
  rw [show ((2 : Int32) + (1 : Int32)) = (3 : Int32) from by decide]
  refine g_goto D184 3 d_jdk_52m21_41 (by decide) (by decide) ?_
  refine g_iload D184 5 d_jdk_52m21_3 rfl rfl ?_
  refine g_iload D184 7 d_jdk_52m21_5 rfl rfl ?_
  refine g_icmpY D184 44 d_jdk_52m21_7 (by decide) (by decide) (by decide) ?_
  refine g_iload D184 46 d_jdk_52m21_44 rfl rfl ?_
  exact r_I D184 hret hlk d_jdk_52m21_46 ⟨N184, ((((Keep.refl _ [d]).wr W182 (Or.inl (List.mem_of_getElem? (i := 0) rfl))).wr W183 (Or.inl (List.mem_of_getElem? (i := 0) rfl))).wr W184 (Or.inl (List.mem_of_getElem? (i := 0) rfl))), Or.inr (Or.inr (Or.inr (⟨q0, q1, q2, rfl, V184⟩)))⟩ (by decide) (by decide)
def Q_cC3_3 (Z : State) (b : Addr) (kc : ClassId) (c0 c1 c2 : Int32) (h0 : Heap) (n0 : Nat) : Option Value → Heap → List Loc → Prop := (fun v h L => ∃ t k cd N2 vs, v = some (.ref t) ∧ h0.size ≤ t ∧ Fr n0 L ∧ Ext h0 h ∧ Arv Z h t k .byte N2 vs (.int (0 : Int32)) ∧ StrChars.Road.CodA [c0, c1, c2] cd N2 vs)
theorem cC3_3 (l : Launch) (Z : State) (a0 : Array Value) (hw : tHW Z a0) (ws : List Jvm.Cond) (b : Addr) (kc : ClassId) (c0 c1 c2 : Int32) (h0 : Heap) (n0 : Nat) (Z0 : n0 ≤ h0.size) (OLD : Old Z n0 h0) (SA : tSA Z) (SH : tSH Z) (SL : tSL Z) (V_b : Arv Z h0 b kc .char (3 : Int32) [(.int c0), (.int c1), (.int c2)] (.int (0 : Int32))) (H0 : C16 c0) (H1 : C16 c1) (H2 : C16 c2) :
    Con l (⟨"java/lang/StringUTF16", "compress", "([CII)[B"⟩ : MethodName) jdk_52_method_16_code 6 (some (.array .byte)) ws ({ frames := 3, cells := 2, slots := 9, locals := 40 } : Room) Z #[(.ref b), (.int (0 : Int32)), (.int (3 : Int32))] h0 (Q_cC3_3 Z b kc c0 c1 c2 h0 n0) 2 9 := by
  refine enter (plainFor_of_name pn_0) ?_
  intro p e s m below meth c s₁ hnm hret hlk D0
  rw [ef_cC3_3 m b]
  refine g_iloadN D0 1 d_jdk_52m16_0 rfl rfl ?_
  refine g_newP D0 3 (aty := .byte) (hw _ w_21) d_jdk_52m16_1 (by decide) (cap := 3) (by decide) (by decide) (by decide) (by decide) (fun _ _ => trivial) rfl ?_
  intro T185 h185 a185 k185 g185 E185 V185 D185
  have V185' : Arv Z h185 a185 k185 .byte (3 : Int32) [(.int (0 : Int32)), (.int (0 : Int32)), (.int (0 : Int32))] (.int (0 : Int32)) := V185.pad (pad_rep [] (.int (0 : Int32)) 3)
  refine g_astoreN D185 4 #[.val (.ref b), .val (.int (0 : Int32)), .val (.int (3 : Int32)), .val (.ref a185), .unset, .unset] d_jdk_52m16_3 rfl rfl rfl ?_
  refine g_aloadN D185 5 d_jdk_52m16_4 rfl rfl rfl ?_
  refine g_iloadN D185 6 d_jdk_52m16_5 rfl rfl ?_
  refine g_aloadN D185 7 d_jdk_52m16_6 rfl rfl rfl ?_
  refine g_iconst D185 8 (0 : Int32) d_jdk_52m16_7 rfl rfl ?_
  refine g_iloadN D185 9 d_jdk_52m16_8 rfl rfl ?_
  refine g_callS D185 12 (hw _ w_63) (hw _ w_64) (hw _ w_61) (hw _ w_65) (by decide) ((cC5_3 l Z a0 hw [] b a185 kc k185 c0 c1 c2 h185 n0 (Nat.le_trans Z0 E185.1) (V_b.ext E185) V185' (Nat.le_trans Z0 (Nat.le_of_eq g185.symm)) (Nat.ne_of_lt (Nat.lt_of_lt_of_le V_b.lt (Nat.le_of_eq g185.symm)))).back D185 0 (hw _ w_65) (hw _ w_61) (by decide) (by decide)) rfl [(.ref b), (.int (0 : Int32)), (.ref a185), (.int (0 : Int32)), (.int (3 : Int32))] rfl (lenOf pd_3 rfl) rfl (Nat.le_of_eq rfl) (by decide) (by decide) (fun _ _ _ _ => trivial) d_jdk_52m16_9 rfl ?_
  intro v186 T186 h186 L186 q186 D186
  obtain ⟨N186, K186, q186⟩ := q186
  have NF186 := Fr.app (Fr.nil n0) N186
  rcases q186 with ⟨q0, rfl⟩ | ⟨q0, q1, rfl⟩ | ⟨q0, q1, q2, rfl⟩ | ⟨q0, q1, q2, rfl, V186⟩
  · show Go p e below _ (T186.setTop (mkF m 12 #[.val (.ref b), .val (.int (0 : Int32)), .val (.int (3 : Int32)), .val (.ref a185), .unset, .unset] [(.int (0 : Int32))]))
    refine g_istore D186 14 #[.val (.ref b), .val (.int (0 : Int32)), .val (.int (3 : Int32)), .val (.ref a185), .val (.int (0 : Int32)), .unset] d_jdk_52m16_12 rfl rfl ?_
    refine g_iload D186 16 d_jdk_52m16_14 rfl rfl ?_
    refine g_iloadN D186 17 d_jdk_52m16_16 rfl rfl ?_
    refine g_icmpN D186 20 d_jdk_52m16_17 (by decide) rfl ?_
    refine g_aloadN D186 21 d_jdk_52m16_20 rfl rfl rfl ?_
    refine g_iloadN D186 22 d_jdk_52m16_21 rfl rfl ?_
    refine g_iloadN D186 23 d_jdk_52m16_22 rfl rfl ?_
    refine g_callS D186 26 (hw _ w_97) (hw _ w_98) (hw _ w_61) (hw _ w_99) (by decide) ((cToB_3 l Z a0 hw [] b kc c0 c1 c2 h186 n0 (Nat.le_trans (Nat.le_trans Z0 E185.1) K186.1) ((OLD.ext E185).keep K186 (allS (Nat.le_trans Z0 (Nat.le_of_eq g185.symm)) all0)) SA SH SL ((V_b.ext E185).keep K186 (ninS (Nat.ne_of_lt (Nat.lt_of_lt_of_le V_b.lt (Nat.le_of_eq g185.symm))) nin0))).back D186 0 (hw _ w_99) (hw _ w_61) (by decide) (by decide)) rfl [(.ref b), (.int (0 : Int32)), (.int (3 : Int32))] rfl (lenOf pd_4 rfl) rfl (Nat.le_of_eq rfl) (by decide) (by decide) (fun _ _ _ _ => trivial) d_jdk_52m16_23 rfl ?_
    intro v187 T187 h187 L187 q187 D187
    obtain ⟨t187, k187, rfl, g187, N187, E187, V187⟩ := q187
    have NF187 := Fr.app NF186 N187
    show Go p e below _ (T187.setTop (mkF m 26 #[.val (.ref b), .val (.int (0 : Int32)), .val (.int (3 : Int32)), .val (.ref a185), .val (.int (0 : Int32)), .unset] [(.ref t187)]))
    refine g_astore D187 28 #[.val (.ref b), .val (.int (0 : Int32)), .val (.int (3 : Int32)), .val (.ref a185), .val (.int (0 : Int32)), .val (.ref t187)] d_jdk_52m16_26 rfl rfl rfl ?_
    refine g_aload D187 30 d_jdk_52m16_28 rfl rfl rfl ?_
    refine g_iload D187 32 d_jdk_52m16_30 rfl rfl ?_
    refine g_callSp D187 35 (hw _ w_113) (hw _ w_114) (hw _ w_61) (hw _ w_115) (by decide) ((cGet l Z a0 hw [] t187 k187 (StrChars.Road.wideBytes [c0, c1, c2]) (6 : Int32) (0 : Int32) (0 : Int32) c0 h187 n0 (Nat.le_trans (Nat.le_trans (Nat.le_trans Z0 E185.1) K186.1) E187.1) (((OLD.ext E185).keep K186 (allS (Nat.le_trans Z0 (Nat.le_of_eq g185.symm)) all0)).ext E187) SA SH SL V187 (by decide) ⟨by decide, by decide⟩ ⟨by decide, by decide⟩ rfl rfl H0).back D187 0 (hw _ w_115) (hw _ w_61) (by decide) (by decide)) rfl [(.ref t187), (.int (0 : Int32))] rfl (lenOf pd_5 rfl) rfl (Nat.le_of_eq rfl) (by decide) (by decide) d_jdk_52m16_32 rfl ?_
    intro v188 T188 q188 D188
    subst q188
    show Go p e below _ (T188.setTop (mkF m 35 #[.val (.ref b), .val (.int (0 : Int32)), .val (.int (3 : Int32)), .val (.ref a185), .val (.int (0 : Int32)), .val (.ref t187)] [(.int c0)]))
    refine g_sipush D188 38 (255 : Int32) d_jdk_52m16_35 rfl rfl ?_
    refine g_icmpY D188 54 d_jdk_52m16_38 (tlt q0).2.2.1 (by decide) (by decide) ?_
    refine g_aload D188 56 d_jdk_52m16_54 rfl rfl rfl ?_
    exact r_A D188 hret rfl rfl hlk d_jdk_52m16_56 ⟨t187, k187, 1, _, _, rfl, (Nat.le_trans (Nat.le_trans (Nat.le_trans (Nat.le_refl _) E185.1) K186.1) g187), NF187, Keep.toExt ((((Keep.refl _ []).ext E185).trans K186 (allS (Or.inr (Nat.le_trans (Nat.le_refl _) (Nat.le_of_eq g185.symm))) all0)).ext E187), V187, Or.inr ⟨rfl, rfl, rfl, c0, List.mem_of_getElem? (i := 0) rfl, q0⟩⟩ (by decide) (by decide)
  · show Go p e below _ (T186.setTop (mkF m 12 #[.val (.ref b), .val (.int (0 : Int32)), .val (.int (3 : Int32)), .val (.ref a185), .unset, .unset] [(.int (1 : Int32))]))
    refine g_istore D186 14 #[.val (.ref b), .val (.int (0 : Int32)), .val (.int (3 : Int32)), .val (.ref a185), .val (.int (1 : Int32)), .unset] d_jdk_52m16_12 rfl rfl ?_
    refine g_iload D186 16 d_jdk_52m16_14 rfl rfl ?_
    refine g_iloadN D186 17 d_jdk_52m16_16 rfl rfl ?_
    refine g_icmpN D186 20 d_jdk_52m16_17 (by decide) rfl ?_
    refine g_aloadN D186 21 d_jdk_52m16_20 rfl rfl rfl ?_
    refine g_iloadN D186 22 d_jdk_52m16_21 rfl rfl ?_
    refine g_iloadN D186 23 d_jdk_52m16_22 rfl rfl ?_
    refine g_callS D186 26 (hw _ w_97) (hw _ w_98) (hw _ w_61) (hw _ w_99) (by decide) ((cToB_3 l Z a0 hw [] b kc c0 c1 c2 h186 n0 (Nat.le_trans (Nat.le_trans Z0 E185.1) K186.1) ((OLD.ext E185).keep K186 (allS (Nat.le_trans Z0 (Nat.le_of_eq g185.symm)) all0)) SA SH SL ((V_b.ext E185).keep K186 (ninS (Nat.ne_of_lt (Nat.lt_of_lt_of_le V_b.lt (Nat.le_of_eq g185.symm))) nin0))).back D186 0 (hw _ w_99) (hw _ w_61) (by decide) (by decide)) rfl [(.ref b), (.int (0 : Int32)), (.int (3 : Int32))] rfl (lenOf pd_4 rfl) rfl (Nat.le_of_eq rfl) (by decide) (by decide) (fun _ _ _ _ => trivial) d_jdk_52m16_23 rfl ?_
    intro v189 T189 h189 L189 q189 D189
    obtain ⟨t189, k189, rfl, g189, N189, E189, V189⟩ := q189
    have NF189 := Fr.app NF186 N189
    show Go p e below _ (T189.setTop (mkF m 26 #[.val (.ref b), .val (.int (0 : Int32)), .val (.int (3 : Int32)), .val (.ref a185), .val (.int (1 : Int32)), .unset] [(.ref t189)]))
    refine g_astore D189 28 #[.val (.ref b), .val (.int (0 : Int32)), .val (.int (3 : Int32)), .val (.ref a185), .val (.int (1 : Int32)), .val (.ref t189)] d_jdk_52m16_26 rfl rfl rfl ?_
    refine g_aload D189 30 d_jdk_52m16_28 rfl rfl rfl ?_
    refine g_iload D189 32 d_jdk_52m16_30 rfl rfl ?_
    refine g_callSp D189 35 (hw _ w_113) (hw _ w_114) (hw _ w_61) (hw _ w_115) (by decide) ((cGet l Z a0 hw [] t189 k189 (StrChars.Road.wideBytes [c0, c1, c2]) (6 : Int32) (1 : Int32) (2 : Int32) c1 h189 n0 (Nat.le_trans (Nat.le_trans (Nat.le_trans Z0 E185.1) K186.1) E189.1) (((OLD.ext E185).keep K186 (allS (Nat.le_trans Z0 (Nat.le_of_eq g185.symm)) all0)).ext E189) SA SH SL V189 (by decide) ⟨by decide, by decide⟩ ⟨by decide, by decide⟩ rfl rfl H1).back D189 0 (hw _ w_115) (hw _ w_61) (by decide) (by decide)) rfl [(.ref t189), (.int (1 : Int32))] rfl (lenOf pd_5 rfl) rfl (Nat.le_of_eq rfl) (by decide) (by decide) d_jdk_52m16_32 rfl ?_
    intro v190 T190 q190 D190
    subst q190
    show Go p e below _ (T190.setTop (mkF m 35 #[.val (.ref b), .val (.int (0 : Int32)), .val (.int (3 : Int32)), .val (.ref a185), .val (.int (1 : Int32)), .val (.ref t189)] [(.int c1)]))
    refine g_sipush D190 38 (255 : Int32) d_jdk_52m16_35 rfl rfl ?_
    refine g_icmpY D190 54 d_jdk_52m16_38 (tlt q1).2.2.1 (by decide) (by decide) ?_
    refine g_aload D190 56 d_jdk_52m16_54 rfl rfl rfl ?_
    exact r_A D190 hret rfl rfl hlk d_jdk_52m16_56 ⟨t189, k189, 1, _, _, rfl, (Nat.le_trans (Nat.le_trans (Nat.le_trans (Nat.le_refl _) E185.1) K186.1) g189), NF189, Keep.toExt ((((Keep.refl _ []).ext E185).trans K186 (allS (Or.inr (Nat.le_trans (Nat.le_refl _) (Nat.le_of_eq g185.symm))) all0)).ext E189), V189, Or.inr ⟨rfl, rfl, rfl, c1, List.mem_of_getElem? (i := 1) rfl, q1⟩⟩ (by decide) (by decide)
  · show Go p e below _ (T186.setTop (mkF m 12 #[.val (.ref b), .val (.int (0 : Int32)), .val (.int (3 : Int32)), .val (.ref a185), .unset, .unset] [(.int (2 : Int32))]))
    refine g_istore D186 14 #[.val (.ref b), .val (.int (0 : Int32)), .val (.int (3 : Int32)), .val (.ref a185), .val (.int (2 : Int32)), .unset] d_jdk_52m16_12 rfl rfl ?_
    refine g_iload D186 16 d_jdk_52m16_14 rfl rfl ?_
    refine g_iloadN D186 17 d_jdk_52m16_16 rfl rfl ?_
    refine g_icmpN D186 20 d_jdk_52m16_17 (by decide) rfl ?_
    refine g_aloadN D186 21 d_jdk_52m16_20 rfl rfl rfl ?_
    refine g_iloadN D186 22 d_jdk_52m16_21 rfl rfl ?_
    refine g_iloadN D186 23 d_jdk_52m16_22 rfl rfl ?_
    refine g_callS D186 26 (hw _ w_97) (hw _ w_98) (hw _ w_61) (hw _ w_99) (by decide) ((cToB_3 l Z a0 hw [] b kc c0 c1 c2 h186 n0 (Nat.le_trans (Nat.le_trans Z0 E185.1) K186.1) ((OLD.ext E185).keep K186 (allS (Nat.le_trans Z0 (Nat.le_of_eq g185.symm)) all0)) SA SH SL ((V_b.ext E185).keep K186 (ninS (Nat.ne_of_lt (Nat.lt_of_lt_of_le V_b.lt (Nat.le_of_eq g185.symm))) nin0))).back D186 0 (hw _ w_99) (hw _ w_61) (by decide) (by decide)) rfl [(.ref b), (.int (0 : Int32)), (.int (3 : Int32))] rfl (lenOf pd_4 rfl) rfl (Nat.le_of_eq rfl) (by decide) (by decide) (fun _ _ _ _ => trivial) d_jdk_52m16_23 rfl ?_
    intro v191 T191 h191 L191 q191 D191
    obtain ⟨t191, k191, rfl, g191, N191, E191, V191⟩ := q191
    have NF191 := Fr.app NF186 N191
    show Go p e below _ (T191.setTop (mkF m 26 #[.val (.ref b), .val (.int (0 : Int32)), .val (.int (3 : Int32)), .val (.ref a185), .val (.int (2 : Int32)), .unset] [(.ref t191)]))
    refine g_astore D191 28 #[.val (.ref b), .val (.int (0 : Int32)), .val (.int (3 : Int32)), .val (.ref a185), .val (.int (2 : Int32)), .val (.ref t191)] d_jdk_52m16_26 rfl rfl rfl ?_
    refine g_aload D191 30 d_jdk_52m16_28 rfl rfl rfl ?_
    refine g_iload D191 32 d_jdk_52m16_30 rfl rfl ?_
    refine g_callSp D191 35 (hw _ w_113) (hw _ w_114) (hw _ w_61) (hw _ w_115) (by decide) ((cGet l Z a0 hw [] t191 k191 (StrChars.Road.wideBytes [c0, c1, c2]) (6 : Int32) (2 : Int32) (4 : Int32) c2 h191 n0 (Nat.le_trans (Nat.le_trans (Nat.le_trans Z0 E185.1) K186.1) E191.1) (((OLD.ext E185).keep K186 (allS (Nat.le_trans Z0 (Nat.le_of_eq g185.symm)) all0)).ext E191) SA SH SL V191 (by decide) ⟨by decide, by decide⟩ ⟨by decide, by decide⟩ rfl rfl H2).back D191 0 (hw _ w_115) (hw _ w_61) (by decide) (by decide)) rfl [(.ref t191), (.int (2 : Int32))] rfl (lenOf pd_5 rfl) rfl (Nat.le_of_eq rfl) (by decide) (by decide) d_jdk_52m16_32 rfl ?_
    intro v192 T192 q192 D192
    subst q192
    show Go p e below _ (T192.setTop (mkF m 35 #[.val (.ref b), .val (.int (0 : Int32)), .val (.int (3 : Int32)), .val (.ref a185), .val (.int (2 : Int32)), .val (.ref t191)] [(.int c2)]))
    refine g_sipush D192 38 (255 : Int32) d_jdk_52m16_35 rfl rfl ?_
    refine g_icmpY D192 54 d_jdk_52m16_38 (tlt q2).2.2.1 (by decide) (by decide) ?_
    refine g_aload D192 56 d_jdk_52m16_54 rfl rfl rfl ?_
    exact r_A D192 hret rfl rfl hlk d_jdk_52m16_56 ⟨t191, k191, 1, _, _, rfl, (Nat.le_trans (Nat.le_trans (Nat.le_trans (Nat.le_refl _) E185.1) K186.1) g191), NF191, Keep.toExt ((((Keep.refl _ []).ext E185).trans K186 (allS (Or.inr (Nat.le_trans (Nat.le_refl _) (Nat.le_of_eq g185.symm))) all0)).ext E191), V191, Or.inr ⟨rfl, rfl, rfl, c2, List.mem_of_getElem? (i := 2) rfl, q2⟩⟩ (by decide) (by decide)
  · show Go p e below _ (T186.setTop (mkF m 12 #[.val (.ref b), .val (.int (0 : Int32)), .val (.int (3 : Int32)), .val (.ref a185), .unset, .unset] [(.int (3 : Int32))]))
    refine g_istore D186 14 #[.val (.ref b), .val (.int (0 : Int32)), .val (.int (3 : Int32)), .val (.ref a185), .val (.int (3 : Int32)), .unset] d_jdk_52m16_12 rfl rfl ?_
    refine g_iload D186 16 d_jdk_52m16_14 rfl rfl ?_
    refine g_iloadN D186 17 d_jdk_52m16_16 rfl rfl ?_
    refine g_icmpY D186 57 d_jdk_52m16_17 (by decide) (by decide) (by decide) ?_
    refine g_aloadN D186 58 d_jdk_52m16_57 rfl rfl rfl ?_
    exact r_A D186 hret rfl rfl hlk d_jdk_52m16_58 ⟨a185, k185, 0, _, _, rfl, (Nat.le_trans (Nat.le_refl _) (Nat.le_of_eq g185.symm)), NF186, Keep.toExt (((Keep.refl _ []).ext E185).trans K186 (allS (Or.inr (Nat.le_trans (Nat.le_refl _) (Nat.le_of_eq g185.symm))) all0)), V186, Or.inl ⟨rfl, rfl, rfl, (u8_cons q0 (u8_cons q1 (u8_cons q2 u8_nil)))⟩⟩ (by decide) (by decide)
theorem cCod_3_0 (l : Launch) (Z : State) (a0 : Array Value) (hw : tHW Z a0) (ws : List Jvm.Cond) (t : Addr) (kb : ClassId) (vs : List Value) (h0 : Heap) (n0 : Nat) (Z0 : n0 ≤ h0.size) (V_t : Arv Z h0 t kb .byte (3 : Int32) vs (.int (0 : Int32))) :
    Con l (⟨"java/lang/StringUTF16", "coderFromArrayLen", "([BI)B"⟩ : MethodName) jdk_52_method_15_code 2 (some .byte) ws ({ frames := 0, cells := 0, slots := 0, locals := 0 } : Room) Z #[(.ref t), (.int (3 : Int32))] h0 (fun v h L => v = some (.int (0 : Int32)) ∧ L = [] ∧ h = h0) 0 0 := by
  refine enter (plainFor_of_name pn_0) ?_
  intro p e s m below meth c s₁ hnm hret hlk D0
  rw [ef_cCod_3_0 m t]
  refine g_iloadN D0 1 d_jdk_52m15_0 rfl rfl ?_
  refine g_aloadN D0 2 d_jdk_52m15_1 rfl rfl rfl ?_
  refine g_alen D0 3 V_t d_jdk_52m15_2 rfl ?_
  refine g_isub D0 4 d_jdk_52m15_3 rfl ?_
  rw [show ((3 : Int32) - (3 : Int32)) = (0 : Int32) from by decide]
  refine g_bipush D0 6 (31 : Int32) d_jdk_52m15_4 rfl rfl ?_
  refine g_iushr D0 7 d_jdk_52m15_6 rfl ?_
  rw [show (XT.ushr (0 : Int32) (31 : Int32)) = (0 : Int32) from by decide]
  refine g_i2b D0 8 d_jdk_52m15_7 rfl ?_
  rw [show ((0 : Int32).toInt8.toInt32) = (0 : Int32) from by decide]
  exact r_N D0 hret (by simp) hlk d_jdk_52m15_8 ⟨(by decide : some (Value.int (nar .byte (0 : Int32))) = some (.int (0 : Int32))), rfl, rfl⟩ (by decide) (by decide)
theorem cCod_3_1 (l : Launch) (Z : State) (a0 : Array Value) (hw : tHW Z a0) (ws : List Jvm.Cond) (t : Addr) (kb : ClassId) (vs : List Value) (h0 : Heap) (n0 : Nat) (Z0 : n0 ≤ h0.size) (V_t : Arv Z h0 t kb .byte (6 : Int32) vs (.int (0 : Int32))) :
    Con l (⟨"java/lang/StringUTF16", "coderFromArrayLen", "([BI)B"⟩ : MethodName) jdk_52_method_15_code 2 (some .byte) ws ({ frames := 0, cells := 0, slots := 0, locals := 0 } : Room) Z #[(.ref t), (.int (3 : Int32))] h0 (fun v h L => v = some (.int (1 : Int32)) ∧ L = [] ∧ h = h0) 0 0 := by
  refine enter (plainFor_of_name pn_0) ?_
  intro p e s m below meth c s₁ hnm hret hlk D0
  rw [ef_cCod_3_1 m t]
  refine g_iloadN D0 1 d_jdk_52m15_0 rfl rfl ?_
  refine g_aloadN D0 2 d_jdk_52m15_1 rfl rfl rfl ?_
  refine g_alen D0 3 V_t d_jdk_52m15_2 rfl ?_
  refine g_isub D0 4 d_jdk_52m15_3 rfl ?_
  rw [show ((3 : Int32) - (6 : Int32)) = (-3 : Int32) from by decide]
  refine g_bipush D0 6 (31 : Int32) d_jdk_52m15_4 rfl rfl ?_
  refine g_iushr D0 7 d_jdk_52m15_6 rfl ?_
  rw [show (XT.ushr (-3 : Int32) (31 : Int32)) = (1 : Int32) from by decide]
  refine g_i2b D0 8 d_jdk_52m15_7 rfl ?_
  rw [show ((1 : Int32).toInt8.toInt32) = (1 : Int32) from by decide]
  exact r_N D0 hret (by simp) hlk d_jdk_52m15_8 ⟨(by decide : some (Value.int (nar .byte (1 : Int32))) = some (.int (1 : Int32))), rfl, rfl⟩ (by decide) (by decide)
def Q_cN4_3 (Z : State) (x b : Addr) (kc : ClassId) (zc : Int32) (c0 c1 c2 : Int32) (h0 : Heap) (n0 : Nat) : Option Value → Heap → List Loc → Prop := (fun v h L => v = none ∧ Fr n0 L ∧ Keep h0 h [x] ∧ TS Z h x [c0, c1, c2])
theorem cN4_3 (l : Launch) (Z : State) (a0 : Array Value) (hw : tHW Z a0) (ws : List Jvm.Cond) (x b : Addr) (kc : ClassId) (zc : Int32) (c0 c1 c2 : Int32) (h0 : Heap) (n0 : Nat) (Z0 : n0 ≤ h0.size) (OLD : Old Z n0 h0) (SA : tSA Z) (SH : tSH Z) (SL : tSL Z) (CS : tCS Z zc) (hzc : ¬ zc = 0) (E_x : Exa Z h0 x "java/lang/String") (F_v : Fld Z h0 x "java/lang/String" "value" "[B" .null) (F_c : Fld Z h0 x "java/lang/String" "coder" "B" (.int (0 : Int32))) (gx : n0 ≤ x) (V_b : Arv Z h0 b kc .char (3 : Int32) [(.int c0), (.int c1), (.int c2)] (.int (0 : Int32))) (H0 : C16 c0) (H1 : C16 c1) (H2 : C16 c2) :
    Con l (⟨"java/lang/String", "<init>", "([CIILjava/lang/Void;)V"⟩ : MethodName) jdk_42_method_149_code 6 none ws ({ frames := 4, cells := 2, slots := 9, locals := 57 } : Room) Z #[(.ref x), (.ref b), (.int (0 : Int32)), (.int (3 : Int32)), .null] h0 (Q_cN4_3 Z x b kc zc c0 c1 c2 h0 n0) 2 9 := by
  refine enter (plainFor_of_name pn_1) ?_
  intro p e s m below meth c s₁ hnm hret hlk D0
  rw [ef_cN4_3 m x b]
  refine g_aloadN D0 1 d_jdk_42m149_0 rfl rfl rfl ?_
  refine g_initO D0 4 (hw _ w_17) (hw _ w_18) (hw _ w_19) rfl d_jdk_42m149_1 (by decide) (W := 0) (Nat.le_of_eq rfl) (by decide) rfl ?_
  intro T193 D193
  refine g_iloadN D193 5 d_jdk_42m149_4 rfl rfl ?_
  refine g_ifY D193 27 d_jdk_42m149_5 (by decide) (by decide) (by decide) ?_
  refine g_getS D193 30 (hw _ w_58) Via.refl (CS.ext OLD.2) d_jdk_42m149_27 rfl ?_
  intro T194 D194
  refine g_ifN D194 33 d_jdk_42m149_30 (feq hzc).1 rfl ?_
  refine g_aloadN D194 34 d_jdk_42m149_33 rfl rfl rfl ?_
  refine g_iloadN D194 35 d_jdk_42m149_34 rfl rfl ?_
  refine g_iloadN D194 36 d_jdk_42m149_35 rfl rfl ?_
  refine g_callS D194 39 (hw _ w_59) (hw _ w_60) (hw _ w_61) (hw _ w_62) (by decide) ((cC3_3 l Z a0 hw [] b kc c0 c1 c2 h0 n0 Z0 OLD SA SH SL V_b H0 H1 H2).back D194 0 (hw _ w_62) (hw _ w_61) (by decide) (by decide)) rfl [(.ref b), (.int (0 : Int32)), (.int (3 : Int32))] rfl (lenOf pd_4 rfl) rfl (Nat.le_of_eq rfl) (by decide) (by decide) (fun _ _ _ _ => trivial) d_jdk_42m149_36 rfl ?_
  intro v195 T195 h195 L195 q195 D195
  obtain ⟨t195, k195, cd195, N2195, vs195, rfl, g195, N195, E195, V195, hc195⟩ := q195
  have NF195 := Fr.app (Fr.nil n0) N195
  show Go p e below _ (T195.setTop (mkF m 39 #[.val (.ref x), .val (.ref b), .val (.int (0 : Int32)), .val (.int (3 : Int32)), .val .null, .unset] [(.ref t195)]))
  refine g_astore D195 41 #[.val (.ref x), .val (.ref b), .val (.int (0 : Int32)), .val (.int (3 : Int32)), .val .null, .val (.ref t195)] d_jdk_42m149_39 rfl rfl rfl ?_
  refine g_aloadN D195 42 d_jdk_42m149_41 rfl rfl rfl ?_
  refine g_aload D195 44 d_jdk_42m149_42 rfl rfl rfl ?_
  refine g_iloadN D195 45 d_jdk_42m149_44 rfl rfl ?_
  have hk := hc195
  rcases hc195 with ⟨rfl, rfl, rfl, -⟩ | ⟨rfl, rfl, rfl, -⟩
  · refine g_callSp D195 48 (hw _ w_66) (hw _ w_67) (hw _ w_61) (hw _ w_68) (by decide) ((cCod_3_0 l Z a0 hw [] t195 k195 _ h195 n0 (Nat.le_trans Z0 E195.1) V195).back D195 1 (hw _ w_68) (hw _ w_61) (by decide) (by decide)) rfl [(.ref t195), (.int (3 : Int32))] rfl (lenOf pd_6 rfl) rfl (Nat.le_of_eq rfl) (by decide) (by decide) d_jdk_42m149_45 rfl ?_
    intro v196 T196 q196 D196
    subst q196
    show Go p e below _ (T196.setTop (mkF m 48 #[.val (.ref x), .val (.ref b), .val (.int (0 : Int32)), .val (.int (3 : Int32)), .val .null, .val (.ref t195)] [(.int (0 : Int32)), (.ref x)]))
    refine g_putF D196 51 (hw _ w_27) Via.refl (F_c.ext E195) (E_x.ext E195) (Or.inr ⟨(hw _ w_23), rfl, hnm⟩) (hw _ w_7) (ty := .byte) (by decide) rfl rfl (fun _ _ => trivial) d_jdk_42m149_48 rfl ?_
    intro T197 h197 W197 D197
    have N197 := Fr.snoc D197.st NF195 gx
    have F197 := (F_c.ext E195).same W197
    refine g_aloadN D197 52 d_jdk_42m149_51 rfl rfl rfl ?_
    refine g_aload D197 54 d_jdk_42m149_52 rfl rfl rfl ?_
    refine g_putF D197 57 (hw _ w_26) Via.refl ((F_v.ext E195).other W197 (Or.inr (slot_ne (Or.inr (hw _ w_22)) (Or.inr (hw _ w_23)) (by decide) (t := (.array .byte)) (t' := .byte) (by decide) (by decide)))) ((E_x.ext E195).wr W197) (Or.inr ⟨(hw _ w_22), rfl, hnm⟩) (hw _ w_7) (ty := (.array .byte)) (by decide) rfl rfl (fun _ _ => trivial) d_jdk_42m149_54 rfl ?_
    intro T198 h198 W198 D198
    have N198 := Fr.snoc D198.st N197 gx
    have F198 := ((F_v.ext E195).other W197 (Or.inr (slot_ne (Or.inr (hw _ w_22)) (Or.inr (hw _ w_23)) (by decide) (t := (.array .byte)) (t' := .byte) (by decide) (by decide)))).same W198
    exact r_V D198 hret hlk d_jdk_42m149_57 ⟨rfl, N198, ((((Keep.refl _ [x]).ext E195).wr W197 (Or.inl (List.mem_of_getElem? (i := 0) rfl))).wr W198 (Or.inl (List.mem_of_getElem? (i := 0) rfl))), t195, k195, (0 : Int32), _, _, (((E_x.ext E195).wr W197).wr W198), (F197.other W198 (Or.inr (slot_ne (Or.inr (hw _ w_23)) (Or.inr (hw _ w_22)) (by decide) (t := .byte) (t' := (.array .byte)) (by decide) (by decide)))), F198, ((V195.other W197 (Ne.symm (Nat.ne_of_lt (Nat.lt_of_lt_of_le E_x.lt g195)))).other W198 (Ne.symm (Nat.ne_of_lt (Nat.lt_of_lt_of_le E_x.lt g195)))), hk, (c16_cons H0 (c16_cons H1 (c16_cons H2 c16_nil))), Nat.le_of_ble_eq_true rfl⟩ (by decide) (by decide)
  · refine g_callSp D195 48 (hw _ w_66) (hw _ w_67) (hw _ w_61) (hw _ w_68) (by decide) ((cCod_3_1 l Z a0 hw [] t195 k195 _ h195 n0 (Nat.le_trans Z0 E195.1) V195).back D195 1 (hw _ w_68) (hw _ w_61) (by decide) (by decide)) rfl [(.ref t195), (.int (3 : Int32))] rfl (lenOf pd_6 rfl) rfl (Nat.le_of_eq rfl) (by decide) (by decide) d_jdk_42m149_45 rfl ?_
    intro v199 T199 q199 D199
    subst q199
    show Go p e below _ (T199.setTop (mkF m 48 #[.val (.ref x), .val (.ref b), .val (.int (0 : Int32)), .val (.int (3 : Int32)), .val .null, .val (.ref t195)] [(.int (1 : Int32)), (.ref x)]))
    refine g_putF D199 51 (hw _ w_27) Via.refl (F_c.ext E195) (E_x.ext E195) (Or.inr ⟨(hw _ w_23), rfl, hnm⟩) (hw _ w_7) (ty := .byte) (by decide) rfl rfl (fun _ _ => trivial) d_jdk_42m149_48 rfl ?_
    intro T200 h200 W200 D200
    have N200 := Fr.snoc D200.st NF195 gx
    have F200 := (F_c.ext E195).same W200
    refine g_aloadN D200 52 d_jdk_42m149_51 rfl rfl rfl ?_
    refine g_aload D200 54 d_jdk_42m149_52 rfl rfl rfl ?_
    refine g_putF D200 57 (hw _ w_26) Via.refl ((F_v.ext E195).other W200 (Or.inr (slot_ne (Or.inr (hw _ w_22)) (Or.inr (hw _ w_23)) (by decide) (t := (.array .byte)) (t' := .byte) (by decide) (by decide)))) ((E_x.ext E195).wr W200) (Or.inr ⟨(hw _ w_22), rfl, hnm⟩) (hw _ w_7) (ty := (.array .byte)) (by decide) rfl rfl (fun _ _ => trivial) d_jdk_42m149_54 rfl ?_
    intro T201 h201 W201 D201
    have N201 := Fr.snoc D201.st N200 gx
    have F201 := ((F_v.ext E195).other W200 (Or.inr (slot_ne (Or.inr (hw _ w_22)) (Or.inr (hw _ w_23)) (by decide) (t := (.array .byte)) (t' := .byte) (by decide) (by decide)))).same W201
    exact r_V D201 hret hlk d_jdk_42m149_57 ⟨rfl, N201, ((((Keep.refl _ [x]).ext E195).wr W200 (Or.inl (List.mem_of_getElem? (i := 0) rfl))).wr W201 (Or.inl (List.mem_of_getElem? (i := 0) rfl))), t195, k195, (1 : Int32), _, _, (((E_x.ext E195).wr W200).wr W201), (F200.other W201 (Or.inr (slot_ne (Or.inr (hw _ w_23)) (Or.inr (hw _ w_22)) (by decide) (t := .byte) (t' := (.array .byte)) (by decide) (by decide)))), F201, ((V195.other W200 (Ne.symm (Nat.ne_of_lt (Nat.lt_of_lt_of_le E_x.lt g195)))).other W201 (Ne.symm (Nat.ne_of_lt (Nat.lt_of_lt_of_le E_x.lt g195)))), hk, (c16_cons H0 (c16_cons H1 (c16_cons H2 c16_nil))), Nat.le_of_ble_eq_true rfl⟩ (by decide) (by decide)
def Q_cN1_3 (Z : State) (x b : Addr) (kc : ClassId) (zc : Int32) (c0 c1 c2 : Int32) (h0 : Heap) (n0 : Nat) : Option Value → Heap → List Loc → Prop := (fun v h L => v = none ∧ Fr n0 L ∧ Keep h0 h [x] ∧ TS Z h x [c0, c1, c2])
theorem cN1_3 (l : Launch) (Z : State) (a0 : Array Value) (hw : tHW Z a0) (ws : List Jvm.Cond) (x b : Addr) (kc : ClassId) (zc : Int32) (c0 c1 c2 : Int32) (h0 : Heap) (n0 : Nat) (Z0 : n0 ≤ h0.size) (OLD : Old Z n0 h0) (SA : tSA Z) (SH : tSH Z) (SL : tSL Z) (CS : tCS Z zc) (hzc : ¬ zc = 0) (E_x : Exa Z h0 x "java/lang/String") (F_v : Fld Z h0 x "java/lang/String" "value" "[B" .null) (F_c : Fld Z h0 x "java/lang/String" "coder" "B" (.int (0 : Int32))) (gx : n0 ≤ x) (V_b : Arv Z h0 b kc .char (3 : Int32) [(.int c0), (.int c1), (.int c2)] (.int (0 : Int32))) (H0 : C16 c0) (H1 : C16 c1) (H2 : C16 c2) :
    Con l (⟨"java/lang/String", "<init>", "([C)V"⟩ : MethodName) jdk_42_method_3_code 2 none ws ({ frames := 5, cells := 2, slots := 9, locals := 74 } : Room) Z #[(.ref x), (.ref b)] h0 (Q_cN1_3 Z x b kc zc c0 c1 c2 h0 n0) 2 9 := by
  refine enter (plainFor_of_name pn_1) ?_
  intro p e s m below meth c s₁ hnm hret hlk D0
  rw [ef_cN1_3 m x b]
  refine g_aloadN D0 1 d_jdk_42m3_0 rfl rfl rfl ?_
  refine g_aloadN D0 2 d_jdk_42m3_1 rfl rfl rfl ?_
  refine g_iconst D0 3 (0 : Int32) d_jdk_42m3_2 rfl rfl ?_
  refine g_aloadN D0 4 d_jdk_42m3_3 rfl rfl rfl ?_
  refine g_alen D0 5 V_b d_jdk_42m3_4 rfl ?_
  refine g_aconst D0 6 d_jdk_42m3_5 rfl ?_
  refine g_callN D0 9 rfl (hw _ w_13) (hw _ w_14) (hw _ w_16) (by decide) ((cN4_3 l Z a0 hw [] x b kc zc c0 c1 c2 h0 n0 Z0 OLD SA SH SL CS hzc E_x F_v F_c gx V_b H0 H1 H2).back D0 0 (hw _ w_16) (hw _ w_8) (by decide) (by decide)) rfl [(.ref b), (.int (0 : Int32)), (.int (3 : Int32)), .null] rfl (lenOf pd_7 rfl) rfl (Nat.le_of_eq rfl) (by decide) (by decide) (fun _ _ _ _ => trivial) d_jdk_42m3_6 rfl ?_
  intro v202 T202 h202 L202 q202 D202
  obtain ⟨rfl, N1, K1, X1⟩ := q202
  rw [List.nil_append] at D202
  show Go p e below _ (T202.setTop (mkF m 9 #[.val (.ref x), .val (.ref b)] []))
  exact r_V D202 hret hlk d_jdk_42m3_9 ⟨rfl, N1, K1, X1⟩ (by decide) (by decide)
theorem cNL_4 (l : Launch) (Z : State) (a0 : Array Value) (hw : tHW Z a0) (ws : List Jvm.Cond)  (h0 : Heap) (n0 : Nat) (Z0 : n0 ≤ h0.size)  :
    Con l (⟨"java/lang/StringUTF16", "newBytesLength", "(I)I"⟩ : MethodName) jdk_52_method_3_code 1 (some .int) ws ({ frames := 0, cells := 0, slots := 0, locals := 0 } : Room) Z #[(.int (4 : Int32))] h0 (fun v h L => v = some (.int (8 : Int32)) ∧ L = [] ∧ h = h0) 0 0 := by
  refine enter (plainFor_of_name pn_0) ?_
  intro p e s m below meth c s₁ hnm hret hlk D0
  rw [ef_cNL_4 m]
  refine g_iloadN D0 1 d_jdk_52m3_0 rfl rfl ?_
  refine g_ifY D0 12 d_jdk_52m3_1 (by decide) (by decide) (by decide) ?_
  refine g_iloadN D0 13 d_jdk_52m3_12 rfl rfl ?_
  refine g_ldcI D0 15 (hw _ w_106) d_jdk_52m3_13 rfl ?_
  refine g_icmpY D0 55 d_jdk_52m3_15 (by decide) (by decide) (by decide) ?_
  refine g_iloadN D0 56 d_jdk_52m3_55 rfl rfl ?_
  refine g_iconst D0 57 (1 : Int32) d_jdk_52m3_56 rfl rfl ?_
  refine g_ishl D0 58 d_jdk_52m3_57 rfl ?_
  rw [show ((4 : Int32) <<< ((1 : Int32) &&& 31)) = (8 : Int32) from by decide]
  exact r_I D0 hret hlk d_jdk_52m3_58 ⟨rfl, rfl, rfl⟩ (by decide) (by decide)
def Q_cNB_4 (Z : State)  (h0 : Heap) (n0 : Nat) : Option Value → Heap → List Loc → Prop := (fun v h L => ∃ a k, v = some (.ref a) ∧ h0.size ≤ a ∧ Fr n0 L ∧ Ext h0 h ∧ Arv Z h a k .byte (8 : Int32) [(.int (0 : Int32)), (.int (0 : Int32)), (.int (0 : Int32)), (.int (0 : Int32)), (.int (0 : Int32)), (.int (0 : Int32)), (.int (0 : Int32)), (.int (0 : Int32))] (.int (0 : Int32)))
theorem cNB_4 (l : Launch) (Z : State) (a0 : Array Value) (hw : tHW Z a0) (ws : List Jvm.Cond)  (h0 : Heap) (n0 : Nat) (Z0 : n0 ≤ h0.size)  :
    Con l (⟨"java/lang/StringUTF16", "newBytesFor", "(I)[B"⟩ : MethodName) jdk_52_method_2_code 1 (some (.array .byte)) ws ({ frames := 1, cells := 1, slots := 8, locals := 12 } : Room) Z #[(.int (4 : Int32))] h0 (Q_cNB_4 Z  h0 n0) 1 8 := by
  refine enter (plainFor_of_name pn_0) ?_
  intro p e s m below meth c s₁ hnm hret hlk D0
  rw [ef_cNB_4 m]
  refine g_iloadN D0 1 d_jdk_52m2_0 rfl rfl ?_
  refine g_callSp D0 4 (hw _ w_103) (hw _ w_104) (hw _ w_61) (hw _ w_105) (by decide) ((cNL_4 l Z a0 hw [] h0 n0 Z0).back D0 0 (hw _ w_105) (hw _ w_61) (by decide) (by decide)) rfl [(.int (4 : Int32))] rfl (lenOf pd_0 rfl) rfl (Nat.le_of_eq rfl) (by decide) (by decide) d_jdk_52m2_1 rfl ?_
  intro v203 T203 q203 D203
  subst q203
  show Go p e below _ (T203.setTop (mkF m 4 #[.val (.int (4 : Int32))] [(.int (8 : Int32))]))
  refine g_newP D203 6 (aty := .byte) (hw _ w_21) d_jdk_52m2_4 (by decide) (cap := 8) (by decide) (by decide) (by decide) (by decide) (fun _ _ => trivial) rfl ?_
  intro T204 h204 a204 k204 g204 E204 V204 D204
  have V204' : Arv Z h204 a204 k204 .byte (8 : Int32) [(.int (0 : Int32)), (.int (0 : Int32)), (.int (0 : Int32)), (.int (0 : Int32)), (.int (0 : Int32)), (.int (0 : Int32)), (.int (0 : Int32)), (.int (0 : Int32))] (.int (0 : Int32)) := V204.pad (pad_rep [] (.int (0 : Int32)) 8)
  exact r_A D204 hret rfl rfl hlk d_jdk_52m2_6 ⟨a204, _, rfl, (Nat.le_trans (Nat.le_refl _) (Nat.le_of_eq g204.symm)), (Fr.nil n0), Keep.toExt ((Keep.refl _ []).ext E204), V204'⟩ (by decide) (by decide)
def Q_cPut_4_0 (Z : State) (t : Addr) (kb : ClassId) (ch : Int32) (v0 v1 v2 v3 v4 v5 v6 v7 : Value) (h0 : Heap) (n0 : Nat) : Option Value → Heap → List Loc → Prop := (fun v h L => v = none ∧ Fr n0 L ∧ Keep h0 h [t] ∧ Arv Z h t kb .byte (8 : Int32) [(.int (StrChars.lo8 ch)), (.int (StrChars.hi8 ch)), v2, v3, v4, v5, v6, v7] (.int (0 : Int32)))
theorem cPut_4_0 (l : Launch) (Z : State) (a0 : Array Value) (hw : tHW Z a0) (ws : List Jvm.Cond) (t : Addr) (kb : ClassId) (ch : Int32) (v0 v1 v2 v3 v4 v5 v6 v7 : Value) (h0 : Heap) (n0 : Nat) (Z0 : n0 ≤ h0.size) (OLD : Old Z n0 h0) (SA : tSA Z) (SH : tSH Z) (SL : tSL Z) (V_t : Arv Z h0 t kb .byte (8 : Int32) [v0, v1, v2, v3, v4, v5, v6, v7] (.int (0 : Int32))) (gt : n0 ≤ t) :
    Con l (⟨"java/lang/StringUTF16", "putChar", "([BII)V"⟩ : MethodName) jdk_52_method_4_code 3 none ws ({ frames := 0, cells := 0, slots := 0, locals := 0 } : Room) Z #[(.ref t), (.int (0 : Int32)), (.int ch)] h0 (Q_cPut_4_0 Z t kb ch v0 v1 v2 v3 v4 v5 v6 v7 h0 n0) 0 0 := by
  refine enter (plainFor_of_name pn_0) ?_
  intro p e s m below meth c s₁ hnm hret hlk D0
  rw [ef_cPut_4_0 m t ch]
  refine g_getS D0 3 (hw _ w_110) Via.refl (SA.ext OLD.2) d_jdk_52m4_0 rfl ?_
  intro T205 D205
  refine g_ifY D205 28 d_jdk_52m4_3 (by decide) (by decide) (by decide) ?_
  refine g_iloadN D205 29 d_jdk_52m4_28 rfl rfl ?_
  refine g_iconst D205 30 (1 : Int32) d_jdk_52m4_29 rfl rfl ?_
  refine g_ishl D205 31 d_jdk_52m4_30 rfl ?_
  rw [show ((0 : Int32) <<< ((1 : Int32) &&& 31)) = (0 : Int32) from by decide]
  refine g_istoreN D205 32 #[.val (.ref t), .val (.int (0 : Int32)), .val (.int ch)] d_jdk_52m4_31 rfl rfl ?_
  refine g_aloadN D205 33 d_jdk_52m4_32 rfl rfl rfl ?_
  refine g_iloadN D205 34 d_jdk_52m4_33 rfl rfl ?_
  refine g_iinc D205 37 (1 : Int32) #[.val (.ref t), .val (.int ((0 : Int32) + (1 : Int32))), .val (.int ch)] d_jdk_52m4_34 rfl rfl rfl rfl ?_
  rw [show ((0 : Int32) + (1 : Int32)) = (1 : Int32) from by decide]
  refine g_iloadN D205 38 d_jdk_52m4_37 rfl rfl ?_
  refine g_getS D205 41 (hw _ w_111) Via.refl (SH.ext OLD.2) d_jdk_52m4_38 rfl ?_
  intro T206 D206
  refine g_ishr D206 42 d_jdk_52m4_41 rfl ?_
  refine g_i2b D206 43 d_jdk_52m4_42 rfl ?_
  refine g_bastore D206 44 V_t ⟨by decide, by decide⟩ 0 (by decide) (Nat.le_of_ble_eq_true rfl) (fun _ _ => trivial) d_jdk_52m4_43 rfl ?_
  intro T207 h207 W207 V207 D207
  rw [nb_lo ch] at V207
  replace V207 : Arv Z h207 t kb .byte (8 : Int32) [(.int (StrChars.lo8 ch)), v1, v2, v3, v4, v5, v6, v7] (.int (0 : Int32)) := V207
  have N207 := Fr.snoc D207.st (Fr.nil n0) gt
  refine g_aloadN D207 45 d_jdk_52m4_44 rfl rfl rfl ?_
  refine g_iloadN D207 46 d_jdk_52m4_45 rfl rfl ?_
  refine g_iloadN D207 47 d_jdk_52m4_46 rfl rfl ?_
  refine g_getS D207 50 (hw _ w_112) Via.refl (SL.ext (OLD.wr W207 gt).2) d_jdk_52m4_47 rfl ?_
  intro T208 D208
  refine g_ishr D208 51 d_jdk_52m4_50 rfl ?_
  refine g_i2b D208 52 d_jdk_52m4_51 rfl ?_
  refine g_bastore D208 53 V207 ⟨by decide, by decide⟩ 1 (by decide) (Nat.le_of_ble_eq_true rfl) (fun _ _ => trivial) d_jdk_52m4_52 rfl ?_
  intro T209 h209 W209 V209 D209
  rw [nb_hi ch] at V209
  replace V209 : Arv Z h209 t kb .byte (8 : Int32) [(.int (StrChars.lo8 ch)), (.int (StrChars.hi8 ch)), v2, v3, v4, v5, v6, v7] (.int (0 : Int32)) := V209
  have N209 := Fr.snoc D209.st N207 gt
  exact r_V D209 hret hlk d_jdk_52m4_53 ⟨rfl, N209, (((Keep.refl _ [t]).wr W207 (Or.inl (List.mem_of_getElem? (i := 0) rfl))).wr W209 (Or.inl (List.mem_of_getElem? (i := 0) rfl))), V209⟩ (by decide) (by decide)
def Q_cPut_4_1 (Z : State) (t : Addr) (kb : ClassId) (ch : Int32) (v0 v1 v2 v3 v4 v5 v6 v7 : Value) (h0 : Heap) (n0 : Nat) : Option Value → Heap → List Loc → Prop := (fun v h L => v = none ∧ Fr n0 L ∧ Keep h0 h [t] ∧ Arv Z h t kb .byte (8 : Int32) [v0, v1, (.int (StrChars.lo8 ch)), (.int (StrChars.hi8 ch)), v4, v5, v6, v7] (.int (0 : Int32)))
theorem cPut_4_1 (l : Launch) (Z : State) (a0 : Array Value) (hw : tHW Z a0) (ws : List Jvm.Cond) (t : Addr) (kb : ClassId) (ch : Int32) (v0 v1 v2 v3 v4 v5 v6 v7 : Value) (h0 : Heap) (n0 : Nat) (Z0 : n0 ≤ h0.size) (OLD : Old Z n0 h0) (SA : tSA Z) (SH : tSH Z) (SL : tSL Z) (V_t : Arv Z h0 t kb .byte (8 : Int32) [v0, v1, v2, v3, v4, v5, v6, v7] (.int (0 : Int32))) (gt : n0 ≤ t) :
    Con l (⟨"java/lang/StringUTF16", "putChar", "([BII)V"⟩ : MethodName) jdk_52_method_4_code 3 none ws ({ frames := 0, cells := 0, slots := 0, locals := 0 } : Room) Z #[(.ref t), (.int (1 : Int32)), (.int ch)] h0 (Q_cPut_4_1 Z t kb ch v0 v1 v2 v3 v4 v5 v6 v7 h0 n0) 0 0 := by
  refine enter (plainFor_of_name pn_0) ?_
  intro p e s m below meth c s₁ hnm hret hlk D0
  rw [ef_cPut_4_1 m t ch]
  refine g_getS D0 3 (hw _ w_110) Via.refl (SA.ext OLD.2) d_jdk_52m4_0 rfl ?_
  intro T210 D210
  refine g_ifY D210 28 d_jdk_52m4_3 (by decide) (by decide) (by decide) ?_
  refine g_iloadN D210 29 d_jdk_52m4_28 rfl rfl ?_
  refine g_iconst D210 30 (1 : Int32) d_jdk_52m4_29 rfl rfl ?_
  refine g_ishl D210 31 d_jdk_52m4_30 rfl ?_
  rw [show ((1 : Int32) <<< ((1 : Int32) &&& 31)) = (2 : Int32) from by decide]
  refine g_istoreN D210 32 #[.val (.ref t), .val (.int (2 : Int32)), .val (.int ch)] d_jdk_52m4_31 rfl rfl ?_
  refine g_aloadN D210 33 d_jdk_52m4_32 rfl rfl rfl ?_
  refine g_iloadN D210 34 d_jdk_52m4_33 rfl rfl ?_
  refine g_iinc D210 37 (1 : Int32) #[.val (.ref t), .val (.int ((2 : Int32) + (1 : Int32))), .val (.int ch)] d_jdk_52m4_34 rfl rfl rfl rfl ?_
  rw [show ((2 : Int32) + (1 : Int32)) = (3 : Int32) from by decide]
  refine g_iloadN D210 38 d_jdk_52m4_37 rfl rfl ?_
  refine g_getS D210 41 (hw _ w_111) Via.refl (SH.ext OLD.2) d_jdk_52m4_38 rfl ?_
  intro T211 D211
  refine g_ishr D211 42 d_jdk_52m4_41 rfl ?_
  refine g_i2b D211 43 d_jdk_52m4_42 rfl ?_
  refine g_bastore D211 44 V_t ⟨by decide, by decide⟩ 2 (by decide) (Nat.le_of_ble_eq_true rfl) (fun _ _ => trivial) d_jdk_52m4_43 rfl ?_
  intro T212 h212 W212 V212 D212
  rw [nb_lo ch] at V212
  replace V212 : Arv Z h212 t kb .byte (8 : Int32) [v0, v1, (.int (StrChars.lo8 ch)), v3, v4, v5, v6, v7] (.int (0 : Int32)) := V212
  have N212 := Fr.snoc D212.st (Fr.nil n0) gt
  refine g_aloadN D212 45 d_jdk_52m4_44 rfl rfl rfl ?_
  refine g_iloadN D212 46 d_jdk_52m4_45 rfl rfl ?_
  refine g_iloadN D212 47 d_jdk_52m4_46 rfl rfl ?_
  refine g_getS D212 50 (hw _ w_112) Via.refl (SL.ext (OLD.wr W212 gt).2) d_jdk_52m4_47 rfl ?_
  intro T213 D213
  refine g_ishr D213 51 d_jdk_52m4_50 rfl ?_
  refine g_i2b D213 52 d_jdk_52m4_51 rfl ?_
  refine g_bastore D213 53 V212 ⟨by decide, by decide⟩ 3 (by decide) (Nat.le_of_ble_eq_true rfl) (fun _ _ => trivial) d_jdk_52m4_52 rfl ?_
  intro T214 h214 W214 V214 D214
  rw [nb_hi ch] at V214
  replace V214 : Arv Z h214 t kb .byte (8 : Int32) [v0, v1, (.int (StrChars.lo8 ch)), (.int (StrChars.hi8 ch)), v4, v5, v6, v7] (.int (0 : Int32)) := V214
  have N214 := Fr.snoc D214.st N212 gt
  exact r_V D214 hret hlk d_jdk_52m4_53 ⟨rfl, N214, (((Keep.refl _ [t]).wr W212 (Or.inl (List.mem_of_getElem? (i := 0) rfl))).wr W214 (Or.inl (List.mem_of_getElem? (i := 0) rfl))), V214⟩ (by decide) (by decide)
def Q_cPut_4_2 (Z : State) (t : Addr) (kb : ClassId) (ch : Int32) (v0 v1 v2 v3 v4 v5 v6 v7 : Value) (h0 : Heap) (n0 : Nat) : Option Value → Heap → List Loc → Prop := (fun v h L => v = none ∧ Fr n0 L ∧ Keep h0 h [t] ∧ Arv Z h t kb .byte (8 : Int32) [v0, v1, v2, v3, (.int (StrChars.lo8 ch)), (.int (StrChars.hi8 ch)), v6, v7] (.int (0 : Int32)))
theorem cPut_4_2 (l : Launch) (Z : State) (a0 : Array Value) (hw : tHW Z a0) (ws : List Jvm.Cond) (t : Addr) (kb : ClassId) (ch : Int32) (v0 v1 v2 v3 v4 v5 v6 v7 : Value) (h0 : Heap) (n0 : Nat) (Z0 : n0 ≤ h0.size) (OLD : Old Z n0 h0) (SA : tSA Z) (SH : tSH Z) (SL : tSL Z) (V_t : Arv Z h0 t kb .byte (8 : Int32) [v0, v1, v2, v3, v4, v5, v6, v7] (.int (0 : Int32))) (gt : n0 ≤ t) :
    Con l (⟨"java/lang/StringUTF16", "putChar", "([BII)V"⟩ : MethodName) jdk_52_method_4_code 3 none ws ({ frames := 0, cells := 0, slots := 0, locals := 0 } : Room) Z #[(.ref t), (.int (2 : Int32)), (.int ch)] h0 (Q_cPut_4_2 Z t kb ch v0 v1 v2 v3 v4 v5 v6 v7 h0 n0) 0 0 := by
  refine enter (plainFor_of_name pn_0) ?_
  intro p e s m below meth c s₁ hnm hret hlk D0
  rw [ef_cPut_4_2 m t ch]
  refine g_getS D0 3 (hw _ w_110) Via.refl (SA.ext OLD.2) d_jdk_52m4_0 rfl ?_
  intro T215 D215
  refine g_ifY D215 28 d_jdk_52m4_3 (by decide) (by decide) (by decide) ?_
  refine g_iloadN D215 29 d_jdk_52m4_28 rfl rfl ?_
  refine g_iconst D215 30 (1 : Int32) d_jdk_52m4_29 rfl rfl ?_
  refine g_ishl D215 31 d_jdk_52m4_30 rfl ?_
  rw [show ((2 : Int32) <<< ((1 : Int32) &&& 31)) = (4 : Int32) from by decide]
  refine g_istoreN D215 32 #[.val (.ref t), .val (.int (4 : Int32)), .val (.int ch)] d_jdk_52m4_31 rfl rfl ?_
  refine g_aloadN D215 33 d_jdk_52m4_32 rfl rfl rfl ?_
  refine g_iloadN D215 34 d_jdk_52m4_33 rfl rfl ?_
  refine g_iinc D215 37 (1 : Int32) #[.val (.ref t), .val (.int ((4 : Int32) + (1 : Int32))), .val (.int ch)] d_jdk_52m4_34 rfl rfl rfl rfl ?_
  rw [show ((4 : Int32) + (1 : Int32)) = (5 : Int32) from by decide]
  refine g_iloadN D215 38 d_jdk_52m4_37 rfl rfl ?_
  refine g_getS D215 41 (hw _ w_111) Via.refl (SH.ext OLD.2) d_jdk_52m4_38 rfl ?_
  intro T216 D216
  refine g_ishr D216 42 d_jdk_52m4_41 rfl ?_
  refine g_i2b D216 43 d_jdk_52m4_42 rfl ?_
  refine g_bastore D216 44 V_t ⟨by decide, by decide⟩ 4 (by decide) (Nat.le_of_ble_eq_true rfl) (fun _ _ => trivial) d_jdk_52m4_43 rfl ?_
  intro T217 h217 W217 V217 D217
  rw [nb_lo ch] at V217
  replace V217 : Arv Z h217 t kb .byte (8 : Int32) [v0, v1, v2, v3, (.int (StrChars.lo8 ch)), v5, v6, v7] (.int (0 : Int32)) := V217
  have N217 := Fr.snoc D217.st (Fr.nil n0) gt
  refine g_aloadN D217 45 d_jdk_52m4_44 rfl rfl rfl ?_
  refine g_iloadN D217 46 d_jdk_52m4_45 rfl rfl ?_
  refine g_iloadN D217 47 d_jdk_52m4_46 rfl rfl ?_
  refine g_getS D217 50 (hw _ w_112) Via.refl (SL.ext (OLD.wr W217 gt).2) d_jdk_52m4_47 rfl ?_
  intro T218 D218
  refine g_ishr D218 51 d_jdk_52m4_50 rfl ?_
  refine g_i2b D218 52 d_jdk_52m4_51 rfl ?_
  refine g_bastore D218 53 V217 ⟨by decide, by decide⟩ 5 (by decide) (Nat.le_of_ble_eq_true rfl) (fun _ _ => trivial) d_jdk_52m4_52 rfl ?_
  intro T219 h219 W219 V219 D219
  rw [nb_hi ch] at V219
  replace V219 : Arv Z h219 t kb .byte (8 : Int32) [v0, v1, v2, v3, (.int (StrChars.lo8 ch)), (.int (StrChars.hi8 ch)), v6, v7] (.int (0 : Int32)) := V219
  have N219 := Fr.snoc D219.st N217 gt
  exact r_V D219 hret hlk d_jdk_52m4_53 ⟨rfl, N219, (((Keep.refl _ [t]).wr W217 (Or.inl (List.mem_of_getElem? (i := 0) rfl))).wr W219 (Or.inl (List.mem_of_getElem? (i := 0) rfl))), V219⟩ (by decide) (by decide)
def Q_cPut_4_3 (Z : State) (t : Addr) (kb : ClassId) (ch : Int32) (v0 v1 v2 v3 v4 v5 v6 v7 : Value) (h0 : Heap) (n0 : Nat) : Option Value → Heap → List Loc → Prop := (fun v h L => v = none ∧ Fr n0 L ∧ Keep h0 h [t] ∧ Arv Z h t kb .byte (8 : Int32) [v0, v1, v2, v3, v4, v5, (.int (StrChars.lo8 ch)), (.int (StrChars.hi8 ch))] (.int (0 : Int32)))
theorem cPut_4_3 (l : Launch) (Z : State) (a0 : Array Value) (hw : tHW Z a0) (ws : List Jvm.Cond) (t : Addr) (kb : ClassId) (ch : Int32) (v0 v1 v2 v3 v4 v5 v6 v7 : Value) (h0 : Heap) (n0 : Nat) (Z0 : n0 ≤ h0.size) (OLD : Old Z n0 h0) (SA : tSA Z) (SH : tSH Z) (SL : tSL Z) (V_t : Arv Z h0 t kb .byte (8 : Int32) [v0, v1, v2, v3, v4, v5, v6, v7] (.int (0 : Int32))) (gt : n0 ≤ t) :
    Con l (⟨"java/lang/StringUTF16", "putChar", "([BII)V"⟩ : MethodName) jdk_52_method_4_code 3 none ws ({ frames := 0, cells := 0, slots := 0, locals := 0 } : Room) Z #[(.ref t), (.int (3 : Int32)), (.int ch)] h0 (Q_cPut_4_3 Z t kb ch v0 v1 v2 v3 v4 v5 v6 v7 h0 n0) 0 0 := by
  refine enter (plainFor_of_name pn_0) ?_
  intro p e s m below meth c s₁ hnm hret hlk D0
  rw [ef_cPut_4_3 m t ch]
  refine g_getS D0 3 (hw _ w_110) Via.refl (SA.ext OLD.2) d_jdk_52m4_0 rfl ?_
  intro T220 D220
  refine g_ifY D220 28 d_jdk_52m4_3 (by decide) (by decide) (by decide) ?_
  refine g_iloadN D220 29 d_jdk_52m4_28 rfl rfl ?_
  refine g_iconst D220 30 (1 : Int32) d_jdk_52m4_29 rfl rfl ?_
  refine g_ishl D220 31 d_jdk_52m4_30 rfl ?_
  rw [show ((3 : Int32) <<< ((1 : Int32) &&& 31)) = (6 : Int32) from by decide]
  refine g_istoreN D220 32 #[.val (.ref t), .val (.int (6 : Int32)), .val (.int ch)] d_jdk_52m4_31 rfl rfl ?_
  refine g_aloadN D220 33 d_jdk_52m4_32 rfl rfl rfl ?_
  refine g_iloadN D220 34 d_jdk_52m4_33 rfl rfl ?_
  refine g_iinc D220 37 (1 : Int32) #[.val (.ref t), .val (.int ((6 : Int32) + (1 : Int32))), .val (.int ch)] d_jdk_52m4_34 rfl rfl rfl rfl ?_
  rw [show ((6 : Int32) + (1 : Int32)) = (7 : Int32) from by decide]
  refine g_iloadN D220 38 d_jdk_52m4_37 rfl rfl ?_
  refine g_getS D220 41 (hw _ w_111) Via.refl (SH.ext OLD.2) d_jdk_52m4_38 rfl ?_
  intro T221 D221
  refine g_ishr D221 42 d_jdk_52m4_41 rfl ?_
  refine g_i2b D221 43 d_jdk_52m4_42 rfl ?_
  refine g_bastore D221 44 V_t ⟨by decide, by decide⟩ 6 (by decide) (Nat.le_of_ble_eq_true rfl) (fun _ _ => trivial) d_jdk_52m4_43 rfl ?_
  intro T222 h222 W222 V222 D222
  rw [nb_lo ch] at V222
  replace V222 : Arv Z h222 t kb .byte (8 : Int32) [v0, v1, v2, v3, v4, v5, (.int (StrChars.lo8 ch)), v7] (.int (0 : Int32)) := V222
  have N222 := Fr.snoc D222.st (Fr.nil n0) gt
  refine g_aloadN D222 45 d_jdk_52m4_44 rfl rfl rfl ?_
  refine g_iloadN D222 46 d_jdk_52m4_45 rfl rfl ?_
  refine g_iloadN D222 47 d_jdk_52m4_46 rfl rfl ?_
  refine g_getS D222 50 (hw _ w_112) Via.refl (SL.ext (OLD.wr W222 gt).2) d_jdk_52m4_47 rfl ?_
  intro T223 D223
  refine g_ishr D223 51 d_jdk_52m4_50 rfl ?_
  refine g_i2b D223 52 d_jdk_52m4_51 rfl ?_
  refine g_bastore D223 53 V222 ⟨by decide, by decide⟩ 7 (by decide) (Nat.le_of_ble_eq_true rfl) (fun _ _ => trivial) d_jdk_52m4_52 rfl ?_
  intro T224 h224 W224 V224 D224
  rw [nb_hi ch] at V224
  replace V224 : Arv Z h224 t kb .byte (8 : Int32) [v0, v1, v2, v3, v4, v5, (.int (StrChars.lo8 ch)), (.int (StrChars.hi8 ch))] (.int (0 : Int32)) := V224
  have N224 := Fr.snoc D224.st N222 gt
  exact r_V D224 hret hlk d_jdk_52m4_53 ⟨rfl, N224, (((Keep.refl _ [t]).wr W222 (Or.inl (List.mem_of_getElem? (i := 0) rfl))).wr W224 (Or.inl (List.mem_of_getElem? (i := 0) rfl))), V224⟩ (by decide) (by decide)
def Q_cToB_4 (Z : State) (b : Addr) (kc : ClassId) (c0 c1 c2 c3 : Int32) (h0 : Heap) (n0 : Nat) : Option Value → Heap → List Loc → Prop := (fun v h L => ∃ t k, v = some (.ref t) ∧ h0.size ≤ t ∧ Fr n0 L ∧ Ext h0 h ∧ Arv Z h t k .byte (8 : Int32) (StrChars.Road.wideBytes [c0, c1, c2, c3]) (.int (0 : Int32)))
theorem cToB_4 (l : Launch) (Z : State) (a0 : Array Value) (hw : tHW Z a0) (ws : List Jvm.Cond) (b : Addr) (kc : ClassId) (c0 c1 c2 c3 : Int32) (h0 : Heap) (n0 : Nat) (Z0 : n0 ≤ h0.size) (OLD : Old Z n0 h0) (SA : tSA Z) (SH : tSH Z) (SL : tSL Z) (V_b : Arv Z h0 b kc .char (4 : Int32) [(.int c0), (.int c1), (.int c2), (.int c3)] (.int (0 : Int32))) :
    Con l (⟨"java/lang/StringUTF16", "toBytes", "([CII)[B"⟩ : MethodName) jdk_52_method_14_code 5 (some (.array .byte)) ws ({ frames := 2, cells := 1, slots := 8, locals := 24 } : Room) Z #[(.ref b), (.int (0 : Int32)), (.int (4 : Int32))] h0 (Q_cToB_4 Z b kc c0 c1 c2 c3 h0 n0) 1 8 := by
  refine enter (plainFor_of_name pn_0) ?_
  intro p e s m below meth c s₁ hnm hret hlk D0
  rw [ef_cToB_4 m b]
  refine g_iloadN D0 1 d_jdk_52m14_0 rfl rfl ?_
  refine g_callS D0 4 (hw _ w_100) (hw _ w_101) (hw _ w_61) (hw _ w_102) (by decide) ((cNB_4 l Z a0 hw [] h0 n0 Z0).back D0 0 (hw _ w_102) (hw _ w_61) (by decide) (by decide)) rfl [(.int (4 : Int32))] rfl (lenOf pd_1 rfl) rfl (Nat.le_of_eq rfl) (by decide) (by decide) (fun _ _ _ _ => trivial) d_jdk_52m14_1 rfl ?_
  intro v225 T225 h225 L225 q225 D225
  obtain ⟨t225, k225, rfl, g225, N225, E225, V225⟩ := q225
  have NF225 := Fr.app (Fr.nil n0) N225
  show Go p e below _ (T225.setTop (mkF m 4 #[.val (.ref b), .val (.int (0 : Int32)), .val (.int (4 : Int32)), .unset, .unset] [(.ref t225)]))
  refine g_astoreN D225 5 #[.val (.ref b), .val (.int (0 : Int32)), .val (.int (4 : Int32)), .val (.ref t225), .unset] d_jdk_52m14_4 rfl rfl rfl ?_
  refine g_iconst D225 6 (0 : Int32) d_jdk_52m14_5 rfl rfl ?_
  refine g_istore D225 8 #[.val (.ref b), .val (.int (0 : Int32)), .val (.int (4 : Int32)), .val (.ref t225), .val (.int (0 : Int32))] d_jdk_52m14_6 rfl rfl ?_
  refine g_iload D225 10 d_jdk_52m14_8 rfl rfl ?_
  refine g_iloadN D225 11 d_jdk_52m14_10 rfl rfl ?_
  refine g_icmpN D225 14 d_jdk_52m14_11 (by decide) rfl ?_
  refine g_aloadN D225 15 d_jdk_52m14_14 rfl rfl rfl ?_
  refine g_iload D225 17 d_jdk_52m14_15 rfl rfl ?_
  refine g_aloadN D225 18 d_jdk_52m14_17 rfl rfl rfl ?_
  refine g_iloadN D225 19 d_jdk_52m14_18 rfl rfl ?_
  refine g_caload D225 20 (V_b.ext E225) (v := (.int c0)) ⟨by decide, by decide⟩ rfl d_jdk_52m14_19 rfl ?_
  refine g_callS D225 23 (hw _ w_107) (hw _ w_108) (hw _ w_61) (hw _ w_109) (by decide) ((cPut_4_0 l Z a0 hw [] t225 k225 c0 (.int (0 : Int32)) (.int (0 : Int32)) (.int (0 : Int32)) (.int (0 : Int32)) (.int (0 : Int32)) (.int (0 : Int32)) (.int (0 : Int32)) (.int (0 : Int32)) h225 n0 (Nat.le_trans Z0 E225.1) (OLD.ext E225) SA SH SL V225 (Nat.le_trans Z0 g225)).back D225 0 (hw _ w_109) (hw _ w_61) (by decide) (by decide)) rfl [(.ref t225), (.int (0 : Int32)), (.int c0)] rfl (lenOf pd_2 rfl) rfl (Nat.le_of_eq rfl) (by decide) (by decide) (fun _ _ _ _ => trivial) d_jdk_52m14_20 rfl ?_
  intro v226 T226 h226 L226 q226 D226
  obtain ⟨rfl, N226, K226, V226⟩ := q226
  have NF226 := Fr.app NF225 N226
  show Go p e below _ (T226.setTop (mkF m 23 #[.val (.ref b), .val (.int (0 : Int32)), .val (.int (4 : Int32)), .val (.ref t225), .val (.int (0 : Int32))] []))
  refine g_iinc D226 26 (1 : Int32) #[.val (.ref b), .val (.int ((0 : Int32) + (1 : Int32))), .val (.int (4 : Int32)), .val (.ref t225), .val (.int (0 : Int32))] d_jdk_52m14_23 rfl rfl rfl rfl ?_
  rw [show ((0 : Int32) + (1 : Int32)) = (1 : Int32) from by decide]
  refine g_iinc D226 29 (1 : Int32) #[.val (.ref b), .val (.int (1 : Int32)), .val (.int (4 : Int32)), .val (.ref t225), .val (.int ((0 : Int32) + (1 : Int32)))] d_jdk_52m14_26 rfl rfl rfl rfl ?_
  rw [show ((0 : Int32) + (1 : Int32)) = (1 : Int32) from by decide]
  refine g_goto D226 8 d_jdk_52m14_29 (by decide) (by decide) ?_
  refine g_iload D226 10 d_jdk_52m14_8 rfl rfl ?_
  refine g_iloadN D226 11 d_jdk_52m14_10 rfl rfl ?_
  refine g_icmpN D226 14 d_jdk_52m14_11 (by decide) rfl ?_
  refine g_aloadN D226 15 d_jdk_52m14_14 rfl rfl rfl ?_
  refine g_iload D226 17 d_jdk_52m14_15 rfl rfl ?_
  refine g_aloadN D226 18 d_jdk_52m14_17 rfl rfl rfl ?_
  refine g_iloadN D226 19 d_jdk_52m14_18 rfl rfl ?_
  refine g_caload D226 20 ((V_b.ext E225).keep K226 (ninS (Nat.ne_of_lt (Nat.lt_of_lt_of_le V_b.lt g225)) nin0)) (v := (.int c1)) ⟨by decide, by decide⟩ rfl d_jdk_52m14_19 rfl ?_
  refine g_callS D226 23 (hw _ w_107) (hw _ w_108) (hw _ w_61) (hw _ w_109) (by decide) ((cPut_4_1 l Z a0 hw [] t225 k225 c1 (.int (StrChars.lo8 c0)) (.int (StrChars.hi8 c0)) (.int (0 : Int32)) (.int (0 : Int32)) (.int (0 : Int32)) (.int (0 : Int32)) (.int (0 : Int32)) (.int (0 : Int32)) h226 n0 (Nat.le_trans (Nat.le_trans Z0 E225.1) K226.1) ((OLD.ext E225).keep K226 (allS (Nat.le_trans Z0 g225) all0)) SA SH SL V226 (Nat.le_trans Z0 g225)).back D226 0 (hw _ w_109) (hw _ w_61) (by decide) (by decide)) rfl [(.ref t225), (.int (1 : Int32)), (.int c1)] rfl (lenOf pd_2 rfl) rfl (Nat.le_of_eq rfl) (by decide) (by decide) (fun _ _ _ _ => trivial) d_jdk_52m14_20 rfl ?_
  intro v227 T227 h227 L227 q227 D227
  obtain ⟨rfl, N227, K227, V227⟩ := q227
  have NF227 := Fr.app NF226 N227
  show Go p e below _ (T227.setTop (mkF m 23 #[.val (.ref b), .val (.int (1 : Int32)), .val (.int (4 : Int32)), .val (.ref t225), .val (.int (1 : Int32))] []))
  refine g_iinc D227 26 (1 : Int32) #[.val (.ref b), .val (.int ((1 : Int32) + (1 : Int32))), .val (.int (4 : Int32)), .val (.ref t225), .val (.int (1 : Int32))] d_jdk_52m14_23 rfl rfl rfl rfl ?_
  rw [show ((1 : Int32) + (1 : Int32)) = (2 : Int32) from by decide]
  refine g_iinc D227 29 (1 : Int32) #[.val (.ref b), .val (.int (2 : Int32)), .val (.int (4 : Int32)), .val (.ref t225), .val (.int ((1 : Int32) + (1 : Int32)))] d_jdk_52m14_26 rfl rfl rfl rfl ?_
  rw [show ((1 : Int32) + (1 : Int32)) = (2 : Int32) from by decide]
  refine g_goto D227 8 d_jdk_52m14_29 (by decide) (by decide) ?_
  refine g_iload D227 10 d_jdk_52m14_8 rfl rfl ?_
  refine g_iloadN D227 11 d_jdk_52m14_10 rfl rfl ?_
  refine g_icmpN D227 14 d_jdk_52m14_11 (by decide) rfl ?_
  refine g_aloadN D227 15 d_jdk_52m14_14 rfl rfl rfl ?_
  refine g_iload D227 17 d_jdk_52m14_15 rfl rfl ?_
  refine g_aloadN D227 18 d_jdk_52m14_17 rfl rfl rfl ?_
  refine g_iloadN D227 19 d_jdk_52m14_18 rfl rfl ?_
  refine g_caload D227 20 (((V_b.ext E225).keep K226 (ninS (Nat.ne_of_lt (Nat.lt_of_lt_of_le V_b.lt g225)) nin0)).keep K227 (ninS (Nat.ne_of_lt (Nat.lt_of_lt_of_le V_b.lt g225)) nin0)) (v := (.int c2)) ⟨by decide, by decide⟩ rfl d_jdk_52m14_19 rfl ?_
  refine g_callS D227 23 (hw _ w_107) (hw _ w_108) (hw _ w_61) (hw _ w_109) (by decide) ((cPut_4_2 l Z a0 hw [] t225 k225 c2 (.int (StrChars.lo8 c0)) (.int (StrChars.hi8 c0)) (.int (StrChars.lo8 c1)) (.int (StrChars.hi8 c1)) (.int (0 : Int32)) (.int (0 : Int32)) (.int (0 : Int32)) (.int (0 : Int32)) h227 n0 (Nat.le_trans (Nat.le_trans (Nat.le_trans Z0 E225.1) K226.1) K227.1) (((OLD.ext E225).keep K226 (allS (Nat.le_trans Z0 g225) all0)).keep K227 (allS (Nat.le_trans Z0 g225) all0)) SA SH SL V227 (Nat.le_trans Z0 g225)).back D227 0 (hw _ w_109) (hw _ w_61) (by decide) (by decide)) rfl [(.ref t225), (.int (2 : Int32)), (.int c2)] rfl (lenOf pd_2 rfl) rfl (Nat.le_of_eq rfl) (by decide) (by decide) (fun _ _ _ _ => trivial) d_jdk_52m14_20 rfl ?_
  intro v228 T228 h228 L228 q228 D228
  obtain ⟨rfl, N228, K228, V228⟩ := q228
  have NF228 := Fr.app NF227 N228
  show Go p e below _ (T228.setTop (mkF m 23 #[.val (.ref b), .val (.int (2 : Int32)), .val (.int (4 : Int32)), .val (.ref t225), .val (.int (2 : Int32))] []))
  refine g_iinc D228 26 (1 : Int32) #[.val (.ref b), .val (.int ((2 : Int32) + (1 : Int32))), .val (.int (4 : Int32)), .val (.ref t225), .val (.int (2 : Int32))] d_jdk_52m14_23 rfl rfl rfl rfl ?_
  rw [show ((2 : Int32) + (1 : Int32)) = (3 : Int32) from by decide]
  refine g_iinc D228 29 (1 : Int32) #[.val (.ref b), .val (.int (3 : Int32)), .val (.int (4 : Int32)), .val (.ref t225), .val (.int ((2 : Int32) + (1 : Int32)))] d_jdk_52m14_26 rfl rfl rfl rfl ?_
  rw [show ((2 : Int32) + (1 : Int32)) = (3 : Int32) from by decide]
  refine g_goto D228 8 d_jdk_52m14_29 (by decide) (by decide) ?_
  refine g_iload D228 10 d_jdk_52m14_8 rfl rfl ?_
  refine g_iloadN D228 11 d_jdk_52m14_10 rfl rfl ?_
  refine g_icmpN D228 14 d_jdk_52m14_11 (by decide) rfl ?_
  refine g_aloadN D228 15 d_jdk_52m14_14 rfl rfl rfl ?_
  refine g_iload D228 17 d_jdk_52m14_15 rfl rfl ?_
  refine g_aloadN D228 18 d_jdk_52m14_17 rfl rfl rfl ?_
  refine g_iloadN D228 19 d_jdk_52m14_18 rfl rfl ?_
  refine g_caload D228 20 ((((V_b.ext E225).keep K226 (ninS (Nat.ne_of_lt (Nat.lt_of_lt_of_le V_b.lt g225)) nin0)).keep K227 (ninS (Nat.ne_of_lt (Nat.lt_of_lt_of_le V_b.lt g225)) nin0)).keep K228 (ninS (Nat.ne_of_lt (Nat.lt_of_lt_of_le V_b.lt g225)) nin0)) (v := (.int c3)) ⟨by decide, by decide⟩ rfl d_jdk_52m14_19 rfl ?_
  refine g_callS D228 23 (hw _ w_107) (hw _ w_108) (hw _ w_61) (hw _ w_109) (by decide) ((cPut_4_3 l Z a0 hw [] t225 k225 c3 (.int (StrChars.lo8 c0)) (.int (StrChars.hi8 c0)) (.int (StrChars.lo8 c1)) (.int (StrChars.hi8 c1)) (.int (StrChars.lo8 c2)) (.int (StrChars.hi8 c2)) (.int (0 : Int32)) (.int (0 : Int32)) h228 n0 (Nat.le_trans (Nat.le_trans (Nat.le_trans (Nat.le_trans Z0 E225.1) K226.1) K227.1) K228.1) ((((OLD.ext E225).keep K226 (allS (Nat.le_trans Z0 g225) all0)).keep K227 (allS (Nat.le_trans Z0 g225) all0)).keep K228 (allS (Nat.le_trans Z0 g225) all0)) SA SH SL V228 (Nat.le_trans Z0 g225)).back D228 0 (hw _ w_109) (hw _ w_61) (by decide) (by decide)) rfl [(.ref t225), (.int (3 : Int32)), (.int c3)] rfl (lenOf pd_2 rfl) rfl (Nat.le_of_eq rfl) (by decide) (by decide) (fun _ _ _ _ => trivial) d_jdk_52m14_20 rfl ?_
  intro v229 T229 h229 L229 q229 D229
  obtain ⟨rfl, N229, K229, V229⟩ := q229
  have NF229 := Fr.app NF228 N229
  show Go p e below _ (T229.setTop (mkF m 23 #[.val (.ref b), .val (.int (3 : Int32)), .val (.int (4 : Int32)), .val (.ref t225), .val (.int (3 : Int32))] []))
  refine g_iinc D229 26 (1 : Int32) #[.val (.ref b), .val (.int ((3 : Int32) + (1 : Int32))), .val (.int (4 : Int32)), .val (.ref t225), .val (.int (3 : Int32))] d_jdk_52m14_23 rfl rfl rfl rfl ?_
  rw [show ((3 : Int32) + (1 : Int32)) = (4 : Int32) from by decide]
  refine g_iinc D229 29 (1 : Int32) #[.val (.ref b), .val (.int (4 : Int32)), .val (.int (4 : Int32)), .val (.ref t225), .val (.int ((3 : Int32) + (1 : Int32)))] d_jdk_52m14_26 rfl rfl rfl rfl ?_
  rw [show ((3 : Int32) + (1 : Int32)) = (4 : Int32) from by decide]
  refine g_goto D229 8 d_jdk_52m14_29 (by decide) (by decide) ?_
  refine g_iload D229 10 d_jdk_52m14_8 rfl rfl ?_
  refine g_iloadN D229 11 d_jdk_52m14_10 rfl rfl ?_
  refine g_icmpY D229 32 d_jdk_52m14_11 (by decide) (by decide) (by decide) ?_
  refine g_aloadN D229 33 d_jdk_52m14_32 rfl rfl rfl ?_
  exact r_A D229 hret rfl rfl hlk d_jdk_52m14_33 ⟨t225, k225, rfl, (Nat.le_trans (Nat.le_refl _) g225), NF229, Keep.toExt ((((((Keep.refl _ []).ext E225).trans K226 (allS (Or.inr (Nat.le_trans (Nat.le_refl _) g225)) all0)).trans K227 (allS (Or.inr (Nat.le_trans (Nat.le_refl _) g225)) all0)).trans K228 (allS (Or.inr (Nat.le_trans (Nat.le_refl _) g225)) all0)).trans K229 (allS (Or.inr (Nat.le_trans (Nat.le_refl _) g225)) all0)), V229⟩ (by decide) (by decide)
def Q_cC5_4 (Z : State) (b d : Addr) (kc kd : ClassId) (c0 c1 c2 c3 : Int32) (h0 : Heap) (n0 : Nat) : Option Value → Heap → List Loc → Prop := (fun v h L => Fr n0 L ∧ Keep h0 h [d] ∧ (((255 : Int32) < c0 ∧ v = some (.int (0 : Int32))) ∨ (¬ (255 : Int32) < c0 ∧ (255 : Int32) < c1 ∧ v = some (.int (1 : Int32))) ∨ (¬ (255 : Int32) < c0 ∧ ¬ (255 : Int32) < c1 ∧ (255 : Int32) < c2 ∧ v = some (.int (2 : Int32))) ∨ (¬ (255 : Int32) < c0 ∧ ¬ (255 : Int32) < c1 ∧ ¬ (255 : Int32) < c2 ∧ (255 : Int32) < c3 ∧ v = some (.int (3 : Int32))) ∨ (¬ (255 : Int32) < c0 ∧ ¬ (255 : Int32) < c1 ∧ ¬ (255 : Int32) < c2 ∧ ¬ (255 : Int32) < c3 ∧ v = some (.int (4 : Int32)) ∧ Arv Z h d kd .byte (4 : Int32) [(.int (StrChars.lo8 c0)), (.int (StrChars.lo8 c1)), (.int (StrChars.lo8 c2)), (.int (StrChars.lo8 c3))] (.int (0 : Int32)))))
theorem cC5_4 (l : Launch) (Z : State) (a0 : Array Value) (hw : tHW Z a0) (ws : List Jvm.Cond) (b d : Addr) (kc kd : ClassId) (c0 c1 c2 c3 : Int32) (h0 : Heap) (n0 : Nat) (Z0 : n0 ≤ h0.size) (V_b : Arv Z h0 b kc .char (4 : Int32) [(.int c0), (.int c1), (.int c2), (.int c3)] (.int (0 : Int32))) (V_d : Arv Z h0 d kd .byte (4 : Int32) [(.int (0 : Int32)), (.int (0 : Int32)), (.int (0 : Int32)), (.int (0 : Int32))] (.int (0 : Int32))) (gd : n0 ≤ d) (nbd : b ≠ d) :
    Con l (⟨"java/lang/StringUTF16", "compress", "([CI[BII)I"⟩ : MethodName) jdk_52_method_21_code 7 (some .int) ws ({ frames := 0, cells := 0, slots := 0, locals := 0 } : Room) Z #[(.ref b), (.int (0 : Int32)), (.ref d), (.int (0 : Int32)), (.int (4 : Int32))] h0 (Q_cC5_4 Z b d kc kd c0 c1 c2 c3 h0 n0) 0 0 := by
  refine enter (plainFor_of_name pn_0) ?_
  intro p e s m below meth c s₁ hnm hret hlk D0
  rw [ef_cC5_4 m b d]
  refine g_iconst D0 1 (0 : Int32) d_jdk_52m21_0 rfl rfl ?_
  refine g_istore D0 3 #[.val (.ref b), .val (.int (0 : Int32)), .val (.ref d), .val (.int (0 : Int32)), .val (.int (4 : Int32)), .val (.int (0 : Int32)), .unset] d_jdk_52m21_1 rfl rfl ?_
  refine g_iload D0 5 d_jdk_52m21_3 rfl rfl ?_
  refine g_iload D0 7 d_jdk_52m21_5 rfl rfl ?_
  refine g_icmpN D0 10 d_jdk_52m21_7 (by decide) rfl ?_
  refine g_aloadN D0 11 d_jdk_52m21_10 rfl rfl rfl ?_
  refine g_iloadN D0 12 d_jdk_52m21_11 rfl rfl ?_
  refine g_caload D0 13 V_b (v := (.int c0)) ⟨by decide, by decide⟩ rfl d_jdk_52m21_12 rfl ?_
  refine g_istore D0 15 #[.val (.ref b), .val (.int (0 : Int32)), .val (.ref d), .val (.int (0 : Int32)), .val (.int (4 : Int32)), .val (.int (0 : Int32)), .val (.int c0)] d_jdk_52m21_13 rfl rfl ?_
  refine g_iload D0 17 d_jdk_52m21_15 rfl rfl ?_
  refine g_sipush D0 20 (255 : Int32) d_jdk_52m21_17 rfl rfl ?_
  by_cases q0 : (255 : Int32) < c0
  · refine g_icmpN D0 23 d_jdk_52m21_20 (tlt q0).2.2.2 rfl ?_
    refine g_iload D0 25 d_jdk_52m21_23 rfl rfl ?_
    exact r_I D0 hret hlk d_jdk_52m21_25 ⟨(Fr.nil n0), (Keep.refl _ [d]), Or.inl ⟨q0, rfl⟩⟩ (by decide) (by decide)
  refine g_icmpY D0 26 d_jdk_52m21_20 (flt q0).2.2.2 (by decide) (by decide) ?_
  refine g_aloadN D0 27 d_jdk_52m21_26 rfl rfl rfl ?_
  refine g_iloadN D0 28 d_jdk_52m21_27 rfl rfl ?_
  refine g_iload D0 30 d_jdk_52m21_28 rfl rfl ?_
  refine g_i2b D0 31 d_jdk_52m21_30 rfl ?_
  refine g_bastore D0 32 V_d ⟨by decide, by decide⟩ 0 (by decide) (Nat.le_of_ble_eq_true rfl) (fun _ _ => trivial) d_jdk_52m21_31 rfl ?_
  intro T230 h230 W230 V230 D230
  rw [nb_b c0] at V230
  replace V230 : Arv Z h230 d kd .byte (4 : Int32) [(.int (StrChars.lo8 c0)), (.int (0 : Int32)), (.int (0 : Int32)), (.int (0 : Int32))] (.int (0 : Int32)) := V230
  have N230 := Fr.snoc D230.st (Fr.nil n0) gd
  refine g_iinc D230 35 (1 : Int32) #[.val (.ref b), .val (.int ((0 : Int32) + (1 : Int32))), .val (.ref d), .val (.int (0 : Int32)), .val (.int (4 : Int32)), .val (.int (0 : Int32)), .val (.int c0)] d_jdk_52m21_32 rfl rfl rfl rfl ?_
  rw [show ((0 : Int32) + (1 : Int32)) = (1 : Int32) from by decide]
  refine g_iinc D230 38 (1 : Int32) #[.val (.ref b), .val (.int (1 : Int32)), .val (.ref d), .val (.int ((0 : Int32) + (1 : Int32))), .val (.int (4 : Int32)), .val (.int (0 : Int32)), .val (.int c0)] d_jdk_52m21_35 rfl rfl rfl rfl ?_
  rw [show ((0 : Int32) + (1 : Int32)) = (1 : Int32) from by decide]
  refine g_iinc D230 41 (1 : Int32) #[.val (.ref b), .val (.int (1 : Int32)), .val (.ref d), .val (.int (1 : Int32)), .val (.int (4 : Int32)), .val (.int ((0 : Int32) + (1 : Int32))), .val (.int c0)] d_jdk_52m21_38 rfl rfl rfl rfl ?_
  rw [show ((0 : Int32) + (1 : Int32)) = (1 : Int32) from by decide]
  refine g_goto D230 3 d_jdk_52m21_41 (by decide) (by decide) ?_
  refine g_iload D230 5 d_jdk_52m21_3 rfl rfl ?_
  refine g_iload D230 7 d_jdk_52m21_5 rfl rfl ?_
  refine g_icmpN D230 10 d_jdk_52m21_7 (by decide) rfl ?_
  refine g_aloadN D230 11 d_jdk_52m21_10 rfl rfl rfl ?_
  refine g_iloadN D230 12 d_jdk_52m21_11 rfl rfl ?_
  refine g_caload D230 13 (V_b.other W230 nbd) (v := (.int c1)) ⟨by decide, by decide⟩ rfl d_jdk_52m21_12 rfl ?_
  refine g_istore D230 15 #[.val (.ref b), .val (.int (1 : Int32)), .val (.ref d), .val (.int (1 : Int32)), .val (.int (4 : Int32)), .val (.int (1 : Int32)), .val (.int c1)] d_jdk_52m21_13 rfl rfl ?_
  refine g_iload D230 17 d_jdk_52m21_15 rfl rfl ?_
  refine g_sipush D230 20 (255 : Int32) d_jdk_52m21_17 rfl rfl ?_
  by_cases q1 : (255 : Int32) < c1
  · refine g_icmpN D230 23 d_jdk_52m21_20 (tlt q1).2.2.2 rfl ?_
    refine g_iload D230 25 d_jdk_52m21_23 rfl rfl ?_
    exact r_I D230 hret hlk d_jdk_52m21_25 ⟨N230, ((Keep.refl _ [d]).wr W230 (Or.inl (List.mem_of_getElem? (i := 0) rfl))), Or.inr (Or.inl ⟨q0, q1, rfl⟩)⟩ (by decide) (by decide)
  refine g_icmpY D230 26 d_jdk_52m21_20 (flt q1).2.2.2 (by decide) (by decide) ?_
  refine g_aloadN D230 27 d_jdk_52m21_26 rfl rfl rfl ?_
  refine g_iloadN D230 28 d_jdk_52m21_27 rfl rfl ?_
  refine g_iload D230 30 d_jdk_52m21_28 rfl rfl ?_
  refine g_i2b D230 31 d_jdk_52m21_30 rfl ?_
  refine g_bastore D230 32 V230 ⟨by decide, by decide⟩ 1 (by decide) (Nat.le_of_ble_eq_true rfl) (fun _ _ => trivial) d_jdk_52m21_31 rfl ?_
  intro T231 h231 W231 V231 D231
  rw [nb_b c1] at V231
  replace V231 : Arv Z h231 d kd .byte (4 : Int32) [(.int (StrChars.lo8 c0)), (.int (StrChars.lo8 c1)), (.int (0 : Int32)), (.int (0 : Int32))] (.int (0 : Int32)) := V231
  have N231 := Fr.snoc D231.st N230 gd
  refine g_iinc D231 35 (1 : Int32) #[.val (.ref b), .val (.int ((1 : Int32) + (1 : Int32))), .val (.ref d), .val (.int (1 : Int32)), .val (.int (4 : Int32)), .val (.int (1 : Int32)), .val (.int c1)] d_jdk_52m21_32 rfl rfl rfl rfl ?_
  rw [show ((1 : Int32) + (1 : Int32)) = (2 : Int32) from by decide]
  refine g_iinc D231 38 (1 : Int32) #[.val (.ref b), .val (.int (2 : Int32)), .val (.ref d), .val (.int ((1 : Int32) + (1 : Int32))), .val (.int (4 : Int32)), .val (.int (1 : Int32)), .val (.int c1)] d_jdk_52m21_35 rfl rfl rfl rfl ?_
  rw [show ((1 : Int32) + (1 : Int32)) = (2 : Int32) from by decide]
  refine g_iinc D231 41 (1 : Int32) #[.val (.ref b), .val (.int (2 : Int32)), .val (.ref d), .val (.int (2 : Int32)), .val (.int (4 : Int32)), .val (.int ((1 : Int32) + (1 : Int32))), .val (.int c1)] d_jdk_52m21_38 rfl rfl rfl rfl ?_
  rw [show ((1 : Int32) + (1 : Int32)) = (2 : Int32) from by decide]
  refine g_goto D231 3 d_jdk_52m21_41 (by decide) (by decide) ?_
  refine g_iload D231 5 d_jdk_52m21_3 rfl rfl ?_
  refine g_iload D231 7 d_jdk_52m21_5 rfl rfl ?_
  refine g_icmpN D231 10 d_jdk_52m21_7 (by decide) rfl ?_
  refine g_aloadN D231 11 d_jdk_52m21_10 rfl rfl rfl ?_
  refine g_iloadN D231 12 d_jdk_52m21_11 rfl rfl ?_
  refine g_caload D231 13 ((V_b.other W230 nbd).other W231 nbd) (v := (.int c2)) ⟨by decide, by decide⟩ rfl d_jdk_52m21_12 rfl ?_
  refine g_istore D231 15 #[.val (.ref b), .val (.int (2 : Int32)), .val (.ref d), .val (.int (2 : Int32)), .val (.int (4 : Int32)), .val (.int (2 : Int32)), .val (.int c2)] d_jdk_52m21_13 rfl rfl ?_
  refine g_iload D231 17 d_jdk_52m21_15 rfl rfl ?_
  refine g_sipush D231 20 (255 : Int32) d_jdk_52m21_17 rfl rfl ?_
  by_cases q2 : (255 : Int32) < c2
  · refine g_icmpN D231 23 d_jdk_52m21_20 (tlt q2).2.2.2 rfl ?_
    refine g_iload D231 25 d_jdk_52m21_23 rfl rfl ?_
    exact r_I D231 hret hlk d_jdk_52m21_25 ⟨N231, (((Keep.refl _ [d]).wr W230 (Or.inl (List.mem_of_getElem? (i := 0) rfl))).wr W231 (Or.inl (List.mem_of_getElem? (i := 0) rfl))), Or.inr (Or.inr (Or.inl ⟨q0, q1, q2, rfl⟩))⟩ (by decide) (by decide)
  refine g_icmpY D231 26 d_jdk_52m21_20 (flt q2).2.2.2 (by decide) (by decide) ?_
  refine g_aloadN D231 27 d_jdk_52m21_26 rfl rfl rfl ?_
  refine g_iloadN D231 28 d_jdk_52m21_27 rfl rfl ?_
  refine g_iload D231 30 d_jdk_52m21_28 rfl rfl ?_
  refine g_i2b D231 31 d_jdk_52m21_30 rfl ?_
  refine g_bastore D231 32 V231 ⟨by decide, by decide⟩ 2 (by decide) (Nat.le_of_ble_eq_true rfl) (fun _ _ => trivial) d_jdk_52m21_31 rfl ?_
  intro T232 h232 W232 V232 D232
  rw [nb_b c2] at V232
  replace V232 : Arv Z h232 d kd .byte (4 : Int32) [(.int (StrChars.lo8 c0)), (.int (StrChars.lo8 c1)), (.int (StrChars.lo8 c2)), (.int (0 : Int32))] (.int (0 : Int32)) := V232
  have N232 := Fr.snoc D232.st N231 gd
  refine g_iinc D232 35 (1 : Int32) #[.val (.ref b), .val (.int ((2 : Int32) + (1 : Int32))), .val (.ref d), .val (.int (2 : Int32)), .val (.int (4 : Int32)), .val (.int (2 : Int32)), .val (.int c2)] d_jdk_52m21_32 rfl rfl rfl rfl ?_
  rw [show ((2 : Int32) + (1 : Int32)) = (3 : Int32) from by decide]
  refine g_iinc D232 38 (1 : Int32) #[.val (.ref b), .val (.int (3 : Int32)), .val (.ref d), .val (.int ((2 : Int32) + (1 : Int32))), .val (.int (4 : Int32)), .val (.int (2 : Int32)), .val (.int c2)] d_jdk_52m21_35 rfl rfl rfl rfl ?_
  rw [show ((2 : Int32) + (1 : Int32)) = (3 : Int32) from by decide]
  refine g_iinc D232 41 (1 : Int32) #[.val (.ref b), .val (.int (3 : Int32)), .val (.ref d), .val (.int (3 : Int32)), .val (.int (4 : Int32)), .val (.int ((2 : Int32) + (1 : Int32))), .val (.int c2)] d_jdk_52m21_38 rfl rfl rfl rfl ?_
  rw [show ((2 : Int32) + (1 : Int32)) = (3 : Int32) from by decide]
  refine g_goto D232 3 d_jdk_52m21_41 (by decide) (by decide) ?_
  refine g_iload D232 5 d_jdk_52m21_3 rfl rfl ?_
  refine g_iload D232 7 d_jdk_52m21_5 rfl rfl ?_
  refine g_icmpN D232 10 d_jdk_52m21_7 (by decide) rfl ?_
  refine g_aloadN D232 11 d_jdk_52m21_10 rfl rfl rfl ?_
  refine g_iloadN D232 12 d_jdk_52m21_11 rfl rfl ?_
  refine g_caload D232 13 (((V_b.other W230 nbd).other W231 nbd).other W232 nbd) (v := (.int c3)) ⟨by decide, by decide⟩ rfl d_jdk_52m21_12 rfl ?_
  refine g_istore D232 15 #[.val (.ref b), .val (.int (3 : Int32)), .val (.ref d), .val (.int (3 : Int32)), .val (.int (4 : Int32)), .val (.int (3 : Int32)), .val (.int c3)] d_jdk_52m21_13 rfl rfl ?_
  refine g_iload D232 17 d_jdk_52m21_15 rfl rfl ?_
  refine g_sipush D232 20 (255 : Int32) d_jdk_52m21_17 rfl rfl ?_
  by_cases q3 : (255 : Int32) < c3
  · refine g_icmpN D232 23 d_jdk_52m21_20 (tlt q3).2.2.2 rfl ?_
    refine g_iload D232 25 d_jdk_52m21_23 rfl rfl ?_
    exact r_I D232 hret hlk d_jdk_52m21_25 ⟨N232, ((((Keep.refl _ [d]).wr W230 (Or.inl (List.mem_of_getElem? (i := 0) rfl))).wr W231 (Or.inl (List.mem_of_getElem? (i := 0) rfl))).wr W232 (Or.inl (List.mem_of_getElem? (i := 0) rfl))), Or.inr (Or.inr (Or.inr (Or.inl ⟨q0, q1, q2, q3, rfl⟩)))⟩ (by decide) (by decide)
  refine g_icmpY D232 26 d_jdk_52m21_20 (flt q3).2.2.2 (by decide) (by decide) ?_
  refine g_aloadN D232 27 d_jdk_52m21_26 rfl rfl rfl ?_
  refine g_iloadN D232 28 d_jdk_52m21_27 rfl rfl ?_
  refine g_iload D232 30 d_jdk_52m21_28 rfl rfl ?_
  refine g_i2b D232 31 d_jdk_52m21_30 rfl ?_
  refine g_bastore D232 32 V232 ⟨by decide, by decide⟩ 3 (by decide) (Nat.le_of_ble_eq_true rfl) (fun _ _ => trivial) d_jdk_52m21_31 rfl ?_
  intro T233 h233 W233 V233 D233
  rw [nb_b c3] at V233
  replace V233 : Arv Z h233 d kd .byte (4 : Int32) [(.int (StrChars.lo8 c0)), (.int (StrChars.lo8 c1)), (.int (StrChars.lo8 c2)), (.int (StrChars.lo8 c3))] (.int (0 : Int32)) := V233
  have N233 := Fr.snoc D233.st N232 gd
  refine g_iinc D233 35 (1 : Int32) #[.val (.ref b), .val (.int ((3 : Int32) + (1 : Int32))), .val (.ref d), .val (.int (3 : Int32)), .val (.int (4 : Int32)), .val (.int (3 : Int32)), .val (.int c3)] d_jdk_52m21_32 rfl rfl rfl rfl ?_
  rw [show ((3 : Int32) + (1 : Int32)) = (4 : Int32) from by decide]
  refine g_iinc D233 38 (1 : Int32) #[.val (.ref b), .val (.int (4 : Int32)), .val (.ref d), .val (.int ((3 : Int32) + (1 : Int32))), .val (.int (4 : Int32)), .val (.int (3 : Int32)), .val (.int c3)] d_jdk_52m21_35 rfl rfl rfl rfl ?_
  rw [show ((3 : Int32) + (1 : Int32)) = (4 : Int32) from by decide]
  refine g_iinc D233 41 (1 : Int32) #[.val (.ref b), .val (.int (4 : Int32)), .val (.ref d), .val (.int (4 : Int32)), .val (.int (4 : Int32)), .val (.int ((3 : Int32) + (1 : Int32))), .val (.int c3)] d_jdk_52m21_38 rfl rfl rfl rfl ?_
  rw [show ((3 : Int32) + (1 : Int32)) = (4 : Int32) from by decide]
  refine g_goto D233 3 d_jdk_52m21_41 (by decide) (by decide) ?_
  refine g_iload D233 5 d_jdk_52m21_3 rfl rfl ?_
  refine g_iload D233 7 d_jdk_52m21_5 rfl rfl ?_
  refine g_icmpY D233 44 d_jdk_52m21_7 (by decide) (by decide) (by decide) ?_
  refine g_iload D233 46 d_jdk_52m21_44 rfl rfl ?_
  exact r_I D233 hret hlk d_jdk_52m21_46 ⟨N233, (((((Keep.refl _ [d]).wr W230 (Or.inl (List.mem_of_getElem? (i := 0) rfl))).wr W231 (Or.inl (List.mem_of_getElem? (i := 0) rfl))).wr W232 (Or.inl (List.mem_of_getElem? (i := 0) rfl))).wr W233 (Or.inl (List.mem_of_getElem? (i := 0) rfl))), Or.inr (Or.inr (Or.inr (Or.inr (⟨q0, q1, q2, q3, rfl, V233⟩))))⟩ (by decide) (by decide)
def Q_cC3_4 (Z : State) (b : Addr) (kc : ClassId) (c0 c1 c2 c3 : Int32) (h0 : Heap) (n0 : Nat) : Option Value → Heap → List Loc → Prop := (fun v h L => ∃ t k cd N2 vs, v = some (.ref t) ∧ h0.size ≤ t ∧ Fr n0 L ∧ Ext h0 h ∧ Arv Z h t k .byte N2 vs (.int (0 : Int32)) ∧ StrChars.Road.CodA [c0, c1, c2, c3] cd N2 vs)
theorem cC3_4 (l : Launch) (Z : State) (a0 : Array Value) (hw : tHW Z a0) (ws : List Jvm.Cond) (b : Addr) (kc : ClassId) (c0 c1 c2 c3 : Int32) (h0 : Heap) (n0 : Nat) (Z0 : n0 ≤ h0.size) (OLD : Old Z n0 h0) (SA : tSA Z) (SH : tSH Z) (SL : tSL Z) (V_b : Arv Z h0 b kc .char (4 : Int32) [(.int c0), (.int c1), (.int c2), (.int c3)] (.int (0 : Int32))) (H0 : C16 c0) (H1 : C16 c1) (H2 : C16 c2) (H3 : C16 c3) :
    Con l (⟨"java/lang/StringUTF16", "compress", "([CII)[B"⟩ : MethodName) jdk_52_method_16_code 6 (some (.array .byte)) ws ({ frames := 3, cells := 2, slots := 12, locals := 40 } : Room) Z #[(.ref b), (.int (0 : Int32)), (.int (4 : Int32))] h0 (Q_cC3_4 Z b kc c0 c1 c2 c3 h0 n0) 2 12 := by
  refine enter (plainFor_of_name pn_0) ?_
  intro p e s m below meth c s₁ hnm hret hlk D0
  rw [ef_cC3_4 m b]
  refine g_iloadN D0 1 d_jdk_52m16_0 rfl rfl ?_
  refine g_newP D0 3 (aty := .byte) (hw _ w_21) d_jdk_52m16_1 (by decide) (cap := 4) (by decide) (by decide) (by decide) (by decide) (fun _ _ => trivial) rfl ?_
  intro T234 h234 a234 k234 g234 E234 V234 D234
  have V234' : Arv Z h234 a234 k234 .byte (4 : Int32) [(.int (0 : Int32)), (.int (0 : Int32)), (.int (0 : Int32)), (.int (0 : Int32))] (.int (0 : Int32)) := V234.pad (pad_rep [] (.int (0 : Int32)) 4)
  refine g_astoreN D234 4 #[.val (.ref b), .val (.int (0 : Int32)), .val (.int (4 : Int32)), .val (.ref a234), .unset, .unset] d_jdk_52m16_3 rfl rfl rfl ?_
  refine g_aloadN D234 5 d_jdk_52m16_4 rfl rfl rfl ?_
  refine g_iloadN D234 6 d_jdk_52m16_5 rfl rfl ?_
  refine g_aloadN D234 7 d_jdk_52m16_6 rfl rfl rfl ?_
  refine g_iconst D234 8 (0 : Int32) d_jdk_52m16_7 rfl rfl ?_
  refine g_iloadN D234 9 d_jdk_52m16_8 rfl rfl ?_
  refine g_callS D234 12 (hw _ w_63) (hw _ w_64) (hw _ w_61) (hw _ w_65) (by decide) ((cC5_4 l Z a0 hw [] b a234 kc k234 c0 c1 c2 c3 h234 n0 (Nat.le_trans Z0 E234.1) (V_b.ext E234) V234' (Nat.le_trans Z0 (Nat.le_of_eq g234.symm)) (Nat.ne_of_lt (Nat.lt_of_lt_of_le V_b.lt (Nat.le_of_eq g234.symm)))).back D234 0 (hw _ w_65) (hw _ w_61) (by decide) (by decide)) rfl [(.ref b), (.int (0 : Int32)), (.ref a234), (.int (0 : Int32)), (.int (4 : Int32))] rfl (lenOf pd_3 rfl) rfl (Nat.le_of_eq rfl) (by decide) (by decide) (fun _ _ _ _ => trivial) d_jdk_52m16_9 rfl ?_
  intro v235 T235 h235 L235 q235 D235
  obtain ⟨N235, K235, q235⟩ := q235
  have NF235 := Fr.app (Fr.nil n0) N235
  rcases q235 with ⟨q0, rfl⟩ | ⟨q0, q1, rfl⟩ | ⟨q0, q1, q2, rfl⟩ | ⟨q0, q1, q2, q3, rfl⟩ | ⟨q0, q1, q2, q3, rfl, V235⟩
  · show Go p e below _ (T235.setTop (mkF m 12 #[.val (.ref b), .val (.int (0 : Int32)), .val (.int (4 : Int32)), .val (.ref a234), .unset, .unset] [(.int (0 : Int32))]))
    refine g_istore D235 14 #[.val (.ref b), .val (.int (0 : Int32)), .val (.int (4 : Int32)), .val (.ref a234), .val (.int (0 : Int32)), .unset] d_jdk_52m16_12 rfl rfl ?_
    refine g_iload D235 16 d_jdk_52m16_14 rfl rfl ?_
    refine g_iloadN D235 17 d_jdk_52m16_16 rfl rfl ?_
    refine g_icmpN D235 20 d_jdk_52m16_17 (by decide) rfl ?_
    refine g_aloadN D235 21 d_jdk_52m16_20 rfl rfl rfl ?_
    refine g_iloadN D235 22 d_jdk_52m16_21 rfl rfl ?_
    refine g_iloadN D235 23 d_jdk_52m16_22 rfl rfl ?_
    refine g_callS D235 26 (hw _ w_97) (hw _ w_98) (hw _ w_61) (hw _ w_99) (by decide) ((cToB_4 l Z a0 hw [] b kc c0 c1 c2 c3 h235 n0 (Nat.le_trans (Nat.le_trans Z0 E234.1) K235.1) ((OLD.ext E234).keep K235 (allS (Nat.le_trans Z0 (Nat.le_of_eq g234.symm)) all0)) SA SH SL ((V_b.ext E234).keep K235 (ninS (Nat.ne_of_lt (Nat.lt_of_lt_of_le V_b.lt (Nat.le_of_eq g234.symm))) nin0))).back D235 0 (hw _ w_99) (hw _ w_61) (by decide) (by decide)) rfl [(.ref b), (.int (0 : Int32)), (.int (4 : Int32))] rfl (lenOf pd_4 rfl) rfl (Nat.le_of_eq rfl) (by decide) (by decide) (fun _ _ _ _ => trivial) d_jdk_52m16_23 rfl ?_
    intro v236 T236 h236 L236 q236 D236
    obtain ⟨t236, k236, rfl, g236, N236, E236, V236⟩ := q236
    have NF236 := Fr.app NF235 N236
    show Go p e below _ (T236.setTop (mkF m 26 #[.val (.ref b), .val (.int (0 : Int32)), .val (.int (4 : Int32)), .val (.ref a234), .val (.int (0 : Int32)), .unset] [(.ref t236)]))
    refine g_astore D236 28 #[.val (.ref b), .val (.int (0 : Int32)), .val (.int (4 : Int32)), .val (.ref a234), .val (.int (0 : Int32)), .val (.ref t236)] d_jdk_52m16_26 rfl rfl rfl ?_
    refine g_aload D236 30 d_jdk_52m16_28 rfl rfl rfl ?_
    refine g_iload D236 32 d_jdk_52m16_30 rfl rfl ?_
    refine g_callSp D236 35 (hw _ w_113) (hw _ w_114) (hw _ w_61) (hw _ w_115) (by decide) ((cGet l Z a0 hw [] t236 k236 (StrChars.Road.wideBytes [c0, c1, c2, c3]) (8 : Int32) (0 : Int32) (0 : Int32) c0 h236 n0 (Nat.le_trans (Nat.le_trans (Nat.le_trans Z0 E234.1) K235.1) E236.1) (((OLD.ext E234).keep K235 (allS (Nat.le_trans Z0 (Nat.le_of_eq g234.symm)) all0)).ext E236) SA SH SL V236 (by decide) ⟨by decide, by decide⟩ ⟨by decide, by decide⟩ rfl rfl H0).back D236 0 (hw _ w_115) (hw _ w_61) (by decide) (by decide)) rfl [(.ref t236), (.int (0 : Int32))] rfl (lenOf pd_5 rfl) rfl (Nat.le_of_eq rfl) (by decide) (by decide) d_jdk_52m16_32 rfl ?_
    intro v237 T237 q237 D237
    subst q237
    show Go p e below _ (T237.setTop (mkF m 35 #[.val (.ref b), .val (.int (0 : Int32)), .val (.int (4 : Int32)), .val (.ref a234), .val (.int (0 : Int32)), .val (.ref t236)] [(.int c0)]))
    refine g_sipush D237 38 (255 : Int32) d_jdk_52m16_35 rfl rfl ?_
    refine g_icmpY D237 54 d_jdk_52m16_38 (tlt q0).2.2.1 (by decide) (by decide) ?_
    refine g_aload D237 56 d_jdk_52m16_54 rfl rfl rfl ?_
    exact r_A D237 hret rfl rfl hlk d_jdk_52m16_56 ⟨t236, k236, 1, _, _, rfl, (Nat.le_trans (Nat.le_trans (Nat.le_trans (Nat.le_refl _) E234.1) K235.1) g236), NF236, Keep.toExt ((((Keep.refl _ []).ext E234).trans K235 (allS (Or.inr (Nat.le_trans (Nat.le_refl _) (Nat.le_of_eq g234.symm))) all0)).ext E236), V236, Or.inr ⟨rfl, rfl, rfl, c0, List.mem_of_getElem? (i := 0) rfl, q0⟩⟩ (by decide) (by decide)
  · show Go p e below _ (T235.setTop (mkF m 12 #[.val (.ref b), .val (.int (0 : Int32)), .val (.int (4 : Int32)), .val (.ref a234), .unset, .unset] [(.int (1 : Int32))]))
    refine g_istore D235 14 #[.val (.ref b), .val (.int (0 : Int32)), .val (.int (4 : Int32)), .val (.ref a234), .val (.int (1 : Int32)), .unset] d_jdk_52m16_12 rfl rfl ?_
    refine g_iload D235 16 d_jdk_52m16_14 rfl rfl ?_
    refine g_iloadN D235 17 d_jdk_52m16_16 rfl rfl ?_
    refine g_icmpN D235 20 d_jdk_52m16_17 (by decide) rfl ?_
    refine g_aloadN D235 21 d_jdk_52m16_20 rfl rfl rfl ?_
    refine g_iloadN D235 22 d_jdk_52m16_21 rfl rfl ?_
    refine g_iloadN D235 23 d_jdk_52m16_22 rfl rfl ?_
    refine g_callS D235 26 (hw _ w_97) (hw _ w_98) (hw _ w_61) (hw _ w_99) (by decide) ((cToB_4 l Z a0 hw [] b kc c0 c1 c2 c3 h235 n0 (Nat.le_trans (Nat.le_trans Z0 E234.1) K235.1) ((OLD.ext E234).keep K235 (allS (Nat.le_trans Z0 (Nat.le_of_eq g234.symm)) all0)) SA SH SL ((V_b.ext E234).keep K235 (ninS (Nat.ne_of_lt (Nat.lt_of_lt_of_le V_b.lt (Nat.le_of_eq g234.symm))) nin0))).back D235 0 (hw _ w_99) (hw _ w_61) (by decide) (by decide)) rfl [(.ref b), (.int (0 : Int32)), (.int (4 : Int32))] rfl (lenOf pd_4 rfl) rfl (Nat.le_of_eq rfl) (by decide) (by decide) (fun _ _ _ _ => trivial) d_jdk_52m16_23 rfl ?_
    intro v238 T238 h238 L238 q238 D238
    obtain ⟨t238, k238, rfl, g238, N238, E238, V238⟩ := q238
    have NF238 := Fr.app NF235 N238
    show Go p e below _ (T238.setTop (mkF m 26 #[.val (.ref b), .val (.int (0 : Int32)), .val (.int (4 : Int32)), .val (.ref a234), .val (.int (1 : Int32)), .unset] [(.ref t238)]))
    refine g_astore D238 28 #[.val (.ref b), .val (.int (0 : Int32)), .val (.int (4 : Int32)), .val (.ref a234), .val (.int (1 : Int32)), .val (.ref t238)] d_jdk_52m16_26 rfl rfl rfl ?_
    refine g_aload D238 30 d_jdk_52m16_28 rfl rfl rfl ?_
    refine g_iload D238 32 d_jdk_52m16_30 rfl rfl ?_
    refine g_callSp D238 35 (hw _ w_113) (hw _ w_114) (hw _ w_61) (hw _ w_115) (by decide) ((cGet l Z a0 hw [] t238 k238 (StrChars.Road.wideBytes [c0, c1, c2, c3]) (8 : Int32) (1 : Int32) (2 : Int32) c1 h238 n0 (Nat.le_trans (Nat.le_trans (Nat.le_trans Z0 E234.1) K235.1) E238.1) (((OLD.ext E234).keep K235 (allS (Nat.le_trans Z0 (Nat.le_of_eq g234.symm)) all0)).ext E238) SA SH SL V238 (by decide) ⟨by decide, by decide⟩ ⟨by decide, by decide⟩ rfl rfl H1).back D238 0 (hw _ w_115) (hw _ w_61) (by decide) (by decide)) rfl [(.ref t238), (.int (1 : Int32))] rfl (lenOf pd_5 rfl) rfl (Nat.le_of_eq rfl) (by decide) (by decide) d_jdk_52m16_32 rfl ?_
    intro v239 T239 q239 D239
    subst q239
    show Go p e below _ (T239.setTop (mkF m 35 #[.val (.ref b), .val (.int (0 : Int32)), .val (.int (4 : Int32)), .val (.ref a234), .val (.int (1 : Int32)), .val (.ref t238)] [(.int c1)]))
    refine g_sipush D239 38 (255 : Int32) d_jdk_52m16_35 rfl rfl ?_
    refine g_icmpY D239 54 d_jdk_52m16_38 (tlt q1).2.2.1 (by decide) (by decide) ?_
    refine g_aload D239 56 d_jdk_52m16_54 rfl rfl rfl ?_
    exact r_A D239 hret rfl rfl hlk d_jdk_52m16_56 ⟨t238, k238, 1, _, _, rfl, (Nat.le_trans (Nat.le_trans (Nat.le_trans (Nat.le_refl _) E234.1) K235.1) g238), NF238, Keep.toExt ((((Keep.refl _ []).ext E234).trans K235 (allS (Or.inr (Nat.le_trans (Nat.le_refl _) (Nat.le_of_eq g234.symm))) all0)).ext E238), V238, Or.inr ⟨rfl, rfl, rfl, c1, List.mem_of_getElem? (i := 1) rfl, q1⟩⟩ (by decide) (by decide)
  · show Go p e below _ (T235.setTop (mkF m 12 #[.val (.ref b), .val (.int (0 : Int32)), .val (.int (4 : Int32)), .val (.ref a234), .unset, .unset] [(.int (2 : Int32))]))
    refine g_istore D235 14 #[.val (.ref b), .val (.int (0 : Int32)), .val (.int (4 : Int32)), .val (.ref a234), .val (.int (2 : Int32)), .unset] d_jdk_52m16_12 rfl rfl ?_
    refine g_iload D235 16 d_jdk_52m16_14 rfl rfl ?_
    refine g_iloadN D235 17 d_jdk_52m16_16 rfl rfl ?_
    refine g_icmpN D235 20 d_jdk_52m16_17 (by decide) rfl ?_
    refine g_aloadN D235 21 d_jdk_52m16_20 rfl rfl rfl ?_
    refine g_iloadN D235 22 d_jdk_52m16_21 rfl rfl ?_
    refine g_iloadN D235 23 d_jdk_52m16_22 rfl rfl ?_
    refine g_callS D235 26 (hw _ w_97) (hw _ w_98) (hw _ w_61) (hw _ w_99) (by decide) ((cToB_4 l Z a0 hw [] b kc c0 c1 c2 c3 h235 n0 (Nat.le_trans (Nat.le_trans Z0 E234.1) K235.1) ((OLD.ext E234).keep K235 (allS (Nat.le_trans Z0 (Nat.le_of_eq g234.symm)) all0)) SA SH SL ((V_b.ext E234).keep K235 (ninS (Nat.ne_of_lt (Nat.lt_of_lt_of_le V_b.lt (Nat.le_of_eq g234.symm))) nin0))).back D235 0 (hw _ w_99) (hw _ w_61) (by decide) (by decide)) rfl [(.ref b), (.int (0 : Int32)), (.int (4 : Int32))] rfl (lenOf pd_4 rfl) rfl (Nat.le_of_eq rfl) (by decide) (by decide) (fun _ _ _ _ => trivial) d_jdk_52m16_23 rfl ?_
    intro v240 T240 h240 L240 q240 D240
    obtain ⟨t240, k240, rfl, g240, N240, E240, V240⟩ := q240
    have NF240 := Fr.app NF235 N240
    show Go p e below _ (T240.setTop (mkF m 26 #[.val (.ref b), .val (.int (0 : Int32)), .val (.int (4 : Int32)), .val (.ref a234), .val (.int (2 : Int32)), .unset] [(.ref t240)]))
    refine g_astore D240 28 #[.val (.ref b), .val (.int (0 : Int32)), .val (.int (4 : Int32)), .val (.ref a234), .val (.int (2 : Int32)), .val (.ref t240)] d_jdk_52m16_26 rfl rfl rfl ?_
    refine g_aload D240 30 d_jdk_52m16_28 rfl rfl rfl ?_
    refine g_iload D240 32 d_jdk_52m16_30 rfl rfl ?_
    refine g_callSp D240 35 (hw _ w_113) (hw _ w_114) (hw _ w_61) (hw _ w_115) (by decide) ((cGet l Z a0 hw [] t240 k240 (StrChars.Road.wideBytes [c0, c1, c2, c3]) (8 : Int32) (2 : Int32) (4 : Int32) c2 h240 n0 (Nat.le_trans (Nat.le_trans (Nat.le_trans Z0 E234.1) K235.1) E240.1) (((OLD.ext E234).keep K235 (allS (Nat.le_trans Z0 (Nat.le_of_eq g234.symm)) all0)).ext E240) SA SH SL V240 (by decide) ⟨by decide, by decide⟩ ⟨by decide, by decide⟩ rfl rfl H2).back D240 0 (hw _ w_115) (hw _ w_61) (by decide) (by decide)) rfl [(.ref t240), (.int (2 : Int32))] rfl (lenOf pd_5 rfl) rfl (Nat.le_of_eq rfl) (by decide) (by decide) d_jdk_52m16_32 rfl ?_
    intro v241 T241 q241 D241
    subst q241
    show Go p e below _ (T241.setTop (mkF m 35 #[.val (.ref b), .val (.int (0 : Int32)), .val (.int (4 : Int32)), .val (.ref a234), .val (.int (2 : Int32)), .val (.ref t240)] [(.int c2)]))
    refine g_sipush D241 38 (255 : Int32) d_jdk_52m16_35 rfl rfl ?_
    refine g_icmpY D241 54 d_jdk_52m16_38 (tlt q2).2.2.1 (by decide) (by decide) ?_
    refine g_aload D241 56 d_jdk_52m16_54 rfl rfl rfl ?_
    exact r_A D241 hret rfl rfl hlk d_jdk_52m16_56 ⟨t240, k240, 1, _, _, rfl, (Nat.le_trans (Nat.le_trans (Nat.le_trans (Nat.le_refl _) E234.1) K235.1) g240), NF240, Keep.toExt ((((Keep.refl _ []).ext E234).trans K235 (allS (Or.inr (Nat.le_trans (Nat.le_refl _) (Nat.le_of_eq g234.symm))) all0)).ext E240), V240, Or.inr ⟨rfl, rfl, rfl, c2, List.mem_of_getElem? (i := 2) rfl, q2⟩⟩ (by decide) (by decide)
  · show Go p e below _ (T235.setTop (mkF m 12 #[.val (.ref b), .val (.int (0 : Int32)), .val (.int (4 : Int32)), .val (.ref a234), .unset, .unset] [(.int (3 : Int32))]))
    refine g_istore D235 14 #[.val (.ref b), .val (.int (0 : Int32)), .val (.int (4 : Int32)), .val (.ref a234), .val (.int (3 : Int32)), .unset] d_jdk_52m16_12 rfl rfl ?_
    refine g_iload D235 16 d_jdk_52m16_14 rfl rfl ?_
    refine g_iloadN D235 17 d_jdk_52m16_16 rfl rfl ?_
    refine g_icmpN D235 20 d_jdk_52m16_17 (by decide) rfl ?_
    refine g_aloadN D235 21 d_jdk_52m16_20 rfl rfl rfl ?_
    refine g_iloadN D235 22 d_jdk_52m16_21 rfl rfl ?_
    refine g_iloadN D235 23 d_jdk_52m16_22 rfl rfl ?_
    refine g_callS D235 26 (hw _ w_97) (hw _ w_98) (hw _ w_61) (hw _ w_99) (by decide) ((cToB_4 l Z a0 hw [] b kc c0 c1 c2 c3 h235 n0 (Nat.le_trans (Nat.le_trans Z0 E234.1) K235.1) ((OLD.ext E234).keep K235 (allS (Nat.le_trans Z0 (Nat.le_of_eq g234.symm)) all0)) SA SH SL ((V_b.ext E234).keep K235 (ninS (Nat.ne_of_lt (Nat.lt_of_lt_of_le V_b.lt (Nat.le_of_eq g234.symm))) nin0))).back D235 0 (hw _ w_99) (hw _ w_61) (by decide) (by decide)) rfl [(.ref b), (.int (0 : Int32)), (.int (4 : Int32))] rfl (lenOf pd_4 rfl) rfl (Nat.le_of_eq rfl) (by decide) (by decide) (fun _ _ _ _ => trivial) d_jdk_52m16_23 rfl ?_
    intro v242 T242 h242 L242 q242 D242
    obtain ⟨t242, k242, rfl, g242, N242, E242, V242⟩ := q242
    have NF242 := Fr.app NF235 N242
    show Go p e below _ (T242.setTop (mkF m 26 #[.val (.ref b), .val (.int (0 : Int32)), .val (.int (4 : Int32)), .val (.ref a234), .val (.int (3 : Int32)), .unset] [(.ref t242)]))
    refine g_astore D242 28 #[.val (.ref b), .val (.int (0 : Int32)), .val (.int (4 : Int32)), .val (.ref a234), .val (.int (3 : Int32)), .val (.ref t242)] d_jdk_52m16_26 rfl rfl rfl ?_
    refine g_aload D242 30 d_jdk_52m16_28 rfl rfl rfl ?_
    refine g_iload D242 32 d_jdk_52m16_30 rfl rfl ?_
    refine g_callSp D242 35 (hw _ w_113) (hw _ w_114) (hw _ w_61) (hw _ w_115) (by decide) ((cGet l Z a0 hw [] t242 k242 (StrChars.Road.wideBytes [c0, c1, c2, c3]) (8 : Int32) (3 : Int32) (6 : Int32) c3 h242 n0 (Nat.le_trans (Nat.le_trans (Nat.le_trans Z0 E234.1) K235.1) E242.1) (((OLD.ext E234).keep K235 (allS (Nat.le_trans Z0 (Nat.le_of_eq g234.symm)) all0)).ext E242) SA SH SL V242 (by decide) ⟨by decide, by decide⟩ ⟨by decide, by decide⟩ rfl rfl H3).back D242 0 (hw _ w_115) (hw _ w_61) (by decide) (by decide)) rfl [(.ref t242), (.int (3 : Int32))] rfl (lenOf pd_5 rfl) rfl (Nat.le_of_eq rfl) (by decide) (by decide) d_jdk_52m16_32 rfl ?_
    intro v243 T243 q243 D243
    subst q243
    show Go p e below _ (T243.setTop (mkF m 35 #[.val (.ref b), .val (.int (0 : Int32)), .val (.int (4 : Int32)), .val (.ref a234), .val (.int (3 : Int32)), .val (.ref t242)] [(.int c3)]))
    refine g_sipush D243 38 (255 : Int32) d_jdk_52m16_35 rfl rfl ?_
    refine g_icmpY D243 54 d_jdk_52m16_38 (tlt q3).2.2.1 (by decide) (by decide) ?_
    refine g_aload D243 56 d_jdk_52m16_54 rfl rfl rfl ?_
    exact r_A D243 hret rfl rfl hlk d_jdk_52m16_56 ⟨t242, k242, 1, _, _, rfl, (Nat.le_trans (Nat.le_trans (Nat.le_trans (Nat.le_refl _) E234.1) K235.1) g242), NF242, Keep.toExt ((((Keep.refl _ []).ext E234).trans K235 (allS (Or.inr (Nat.le_trans (Nat.le_refl _) (Nat.le_of_eq g234.symm))) all0)).ext E242), V242, Or.inr ⟨rfl, rfl, rfl, c3, List.mem_of_getElem? (i := 3) rfl, q3⟩⟩ (by decide) (by decide)
  · show Go p e below _ (T235.setTop (mkF m 12 #[.val (.ref b), .val (.int (0 : Int32)), .val (.int (4 : Int32)), .val (.ref a234), .unset, .unset] [(.int (4 : Int32))]))
    refine g_istore D235 14 #[.val (.ref b), .val (.int (0 : Int32)), .val (.int (4 : Int32)), .val (.ref a234), .val (.int (4 : Int32)), .unset] d_jdk_52m16_12 rfl rfl ?_
    refine g_iload D235 16 d_jdk_52m16_14 rfl rfl ?_
    refine g_iloadN D235 17 d_jdk_52m16_16 rfl rfl ?_
    refine g_icmpY D235 57 d_jdk_52m16_17 (by decide) (by decide) (by decide) ?_
    refine g_aloadN D235 58 d_jdk_52m16_57 rfl rfl rfl ?_
    exact r_A D235 hret rfl rfl hlk d_jdk_52m16_58 ⟨a234, k234, 0, _, _, rfl, (Nat.le_trans (Nat.le_refl _) (Nat.le_of_eq g234.symm)), NF235, Keep.toExt (((Keep.refl _ []).ext E234).trans K235 (allS (Or.inr (Nat.le_trans (Nat.le_refl _) (Nat.le_of_eq g234.symm))) all0)), V235, Or.inl ⟨rfl, rfl, rfl, (u8_cons q0 (u8_cons q1 (u8_cons q2 (u8_cons q3 u8_nil))))⟩⟩ (by decide) (by decide)
theorem cCod_4_0 (l : Launch) (Z : State) (a0 : Array Value) (hw : tHW Z a0) (ws : List Jvm.Cond) (t : Addr) (kb : ClassId) (vs : List Value) (h0 : Heap) (n0 : Nat) (Z0 : n0 ≤ h0.size) (V_t : Arv Z h0 t kb .byte (4 : Int32) vs (.int (0 : Int32))) :
    Con l (⟨"java/lang/StringUTF16", "coderFromArrayLen", "([BI)B"⟩ : MethodName) jdk_52_method_15_code 2 (some .byte) ws ({ frames := 0, cells := 0, slots := 0, locals := 0 } : Room) Z #[(.ref t), (.int (4 : Int32))] h0 (fun v h L => v = some (.int (0 : Int32)) ∧ L = [] ∧ h = h0) 0 0 := by
  refine enter (plainFor_of_name pn_0) ?_
  intro p e s m below meth c s₁ hnm hret hlk D0
  rw [ef_cCod_4_0 m t]
  refine g_iloadN D0 1 d_jdk_52m15_0 rfl rfl ?_
  refine g_aloadN D0 2 d_jdk_52m15_1 rfl rfl rfl ?_
  refine g_alen D0 3 V_t d_jdk_52m15_2 rfl ?_
  refine g_isub D0 4 d_jdk_52m15_3 rfl ?_
  rw [show ((4 : Int32) - (4 : Int32)) = (0 : Int32) from by decide]
  refine g_bipush D0 6 (31 : Int32) d_jdk_52m15_4 rfl rfl ?_
  refine g_iushr D0 7 d_jdk_52m15_6 rfl ?_
  rw [show (XT.ushr (0 : Int32) (31 : Int32)) = (0 : Int32) from by decide]
  refine g_i2b D0 8 d_jdk_52m15_7 rfl ?_
  rw [show ((0 : Int32).toInt8.toInt32) = (0 : Int32) from by decide]
  exact r_N D0 hret (by simp) hlk d_jdk_52m15_8 ⟨(by decide : some (Value.int (nar .byte (0 : Int32))) = some (.int (0 : Int32))), rfl, rfl⟩ (by decide) (by decide)
theorem cCod_4_1 (l : Launch) (Z : State) (a0 : Array Value) (hw : tHW Z a0) (ws : List Jvm.Cond) (t : Addr) (kb : ClassId) (vs : List Value) (h0 : Heap) (n0 : Nat) (Z0 : n0 ≤ h0.size) (V_t : Arv Z h0 t kb .byte (8 : Int32) vs (.int (0 : Int32))) :
    Con l (⟨"java/lang/StringUTF16", "coderFromArrayLen", "([BI)B"⟩ : MethodName) jdk_52_method_15_code 2 (some .byte) ws ({ frames := 0, cells := 0, slots := 0, locals := 0 } : Room) Z #[(.ref t), (.int (4 : Int32))] h0 (fun v h L => v = some (.int (1 : Int32)) ∧ L = [] ∧ h = h0) 0 0 := by
  refine enter (plainFor_of_name pn_0) ?_
  intro p e s m below meth c s₁ hnm hret hlk D0
  rw [ef_cCod_4_1 m t]
  refine g_iloadN D0 1 d_jdk_52m15_0 rfl rfl ?_
  refine g_aloadN D0 2 d_jdk_52m15_1 rfl rfl rfl ?_
  refine g_alen D0 3 V_t d_jdk_52m15_2 rfl ?_
  refine g_isub D0 4 d_jdk_52m15_3 rfl ?_
  rw [show ((4 : Int32) - (8 : Int32)) = (-4 : Int32) from by decide]
  refine g_bipush D0 6 (31 : Int32) d_jdk_52m15_4 rfl rfl ?_
  refine g_iushr D0 7 d_jdk_52m15_6 rfl ?_
  rw [show (XT.ushr (-4 : Int32) (31 : Int32)) = (1 : Int32) from by decide]
  refine g_i2b D0 8 d_jdk_52m15_7 rfl ?_
  rw [show ((1 : Int32).toInt8.toInt32) = (1 : Int32) from by decide]
  exact r_N D0 hret (by simp) hlk d_jdk_52m15_8 ⟨(by decide : some (Value.int (nar .byte (1 : Int32))) = some (.int (1 : Int32))), rfl, rfl⟩ (by decide) (by decide)
def Q_cN4_4 (Z : State) (x b : Addr) (kc : ClassId) (zc : Int32) (c0 c1 c2 c3 : Int32) (h0 : Heap) (n0 : Nat) : Option Value → Heap → List Loc → Prop := (fun v h L => v = none ∧ Fr n0 L ∧ Keep h0 h [x] ∧ TS Z h x [c0, c1, c2, c3])
theorem cN4_4 (l : Launch) (Z : State) (a0 : Array Value) (hw : tHW Z a0) (ws : List Jvm.Cond) (x b : Addr) (kc : ClassId) (zc : Int32) (c0 c1 c2 c3 : Int32) (h0 : Heap) (n0 : Nat) (Z0 : n0 ≤ h0.size) (OLD : Old Z n0 h0) (SA : tSA Z) (SH : tSH Z) (SL : tSL Z) (CS : tCS Z zc) (hzc : ¬ zc = 0) (E_x : Exa Z h0 x "java/lang/String") (F_v : Fld Z h0 x "java/lang/String" "value" "[B" .null) (F_c : Fld Z h0 x "java/lang/String" "coder" "B" (.int (0 : Int32))) (gx : n0 ≤ x) (V_b : Arv Z h0 b kc .char (4 : Int32) [(.int c0), (.int c1), (.int c2), (.int c3)] (.int (0 : Int32))) (H0 : C16 c0) (H1 : C16 c1) (H2 : C16 c2) (H3 : C16 c3) :
    Con l (⟨"java/lang/String", "<init>", "([CIILjava/lang/Void;)V"⟩ : MethodName) jdk_42_method_149_code 6 none ws ({ frames := 4, cells := 2, slots := 12, locals := 57 } : Room) Z #[(.ref x), (.ref b), (.int (0 : Int32)), (.int (4 : Int32)), .null] h0 (Q_cN4_4 Z x b kc zc c0 c1 c2 c3 h0 n0) 2 12 := by
  refine enter (plainFor_of_name pn_1) ?_
  intro p e s m below meth c s₁ hnm hret hlk D0
  rw [ef_cN4_4 m x b]
  refine g_aloadN D0 1 d_jdk_42m149_0 rfl rfl rfl ?_
  refine g_initO D0 4 (hw _ w_17) (hw _ w_18) (hw _ w_19) rfl d_jdk_42m149_1 (by decide) (W := 0) (Nat.le_of_eq rfl) (by decide) rfl ?_
  intro T244 D244
  refine g_iloadN D244 5 d_jdk_42m149_4 rfl rfl ?_
  refine g_ifY D244 27 d_jdk_42m149_5 (by decide) (by decide) (by decide) ?_
  refine g_getS D244 30 (hw _ w_58) Via.refl (CS.ext OLD.2) d_jdk_42m149_27 rfl ?_
  intro T245 D245
  refine g_ifN D245 33 d_jdk_42m149_30 (feq hzc).1 rfl ?_
  refine g_aloadN D245 34 d_jdk_42m149_33 rfl rfl rfl ?_
  refine g_iloadN D245 35 d_jdk_42m149_34 rfl rfl ?_
  refine g_iloadN D245 36 d_jdk_42m149_35 rfl rfl ?_
  refine g_callS D245 39 (hw _ w_59) (hw _ w_60) (hw _ w_61) (hw _ w_62) (by decide) ((cC3_4 l Z a0 hw [] b kc c0 c1 c2 c3 h0 n0 Z0 OLD SA SH SL V_b H0 H1 H2 H3).back D245 0 (hw _ w_62) (hw _ w_61) (by decide) (by decide)) rfl [(.ref b), (.int (0 : Int32)), (.int (4 : Int32))] rfl (lenOf pd_4 rfl) rfl (Nat.le_of_eq rfl) (by decide) (by decide) (fun _ _ _ _ => trivial) d_jdk_42m149_36 rfl ?_
  intro v246 T246 h246 L246 q246 D246
  obtain ⟨t246, k246, cd246, N2246, vs246, rfl, g246, N246, E246, V246, hc246⟩ := q246
  have NF246 := Fr.app (Fr.nil n0) N246
  show Go p e below _ (T246.setTop (mkF m 39 #[.val (.ref x), .val (.ref b), .val (.int (0 : Int32)), .val (.int (4 : Int32)), .val .null, .unset] [(.ref t246)]))
  refine g_astore D246 41 #[.val (.ref x), .val (.ref b), .val (.int (0 : Int32)), .val (.int (4 : Int32)), .val .null, .val (.ref t246)] d_jdk_42m149_39 rfl rfl rfl ?_
  refine g_aloadN D246 42 d_jdk_42m149_41 rfl rfl rfl ?_
  refine g_aload D246 44 d_jdk_42m149_42 rfl rfl rfl ?_
  refine g_iloadN D246 45 d_jdk_42m149_44 rfl rfl ?_
  have hk := hc246
  rcases hc246 with ⟨rfl, rfl, rfl, -⟩ | ⟨rfl, rfl, rfl, -⟩
  · refine g_callSp D246 48 (hw _ w_66) (hw _ w_67) (hw _ w_61) (hw _ w_68) (by decide) ((cCod_4_0 l Z a0 hw [] t246 k246 _ h246 n0 (Nat.le_trans Z0 E246.1) V246).back D246 1 (hw _ w_68) (hw _ w_61) (by decide) (by decide)) rfl [(.ref t246), (.int (4 : Int32))] rfl (lenOf pd_6 rfl) rfl (Nat.le_of_eq rfl) (by decide) (by decide) d_jdk_42m149_45 rfl ?_
    intro v247 T247 q247 D247
    subst q247
    show Go p e below _ (T247.setTop (mkF m 48 #[.val (.ref x), .val (.ref b), .val (.int (0 : Int32)), .val (.int (4 : Int32)), .val .null, .val (.ref t246)] [(.int (0 : Int32)), (.ref x)]))
    refine g_putF D247 51 (hw _ w_27) Via.refl (F_c.ext E246) (E_x.ext E246) (Or.inr ⟨(hw _ w_23), rfl, hnm⟩) (hw _ w_7) (ty := .byte) (by decide) rfl rfl (fun _ _ => trivial) d_jdk_42m149_48 rfl ?_
    intro T248 h248 W248 D248
    have N248 := Fr.snoc D248.st NF246 gx
    have F248 := (F_c.ext E246).same W248
    refine g_aloadN D248 52 d_jdk_42m149_51 rfl rfl rfl ?_
    refine g_aload D248 54 d_jdk_42m149_52 rfl rfl rfl ?_
    refine g_putF D248 57 (hw _ w_26) Via.refl ((F_v.ext E246).other W248 (Or.inr (slot_ne (Or.inr (hw _ w_22)) (Or.inr (hw _ w_23)) (by decide) (t := (.array .byte)) (t' := .byte) (by decide) (by decide)))) ((E_x.ext E246).wr W248) (Or.inr ⟨(hw _ w_22), rfl, hnm⟩) (hw _ w_7) (ty := (.array .byte)) (by decide) rfl rfl (fun _ _ => trivial) d_jdk_42m149_54 rfl ?_
    intro T249 h249 W249 D249
    have N249 := Fr.snoc D249.st N248 gx
    have F249 := ((F_v.ext E246).other W248 (Or.inr (slot_ne (Or.inr (hw _ w_22)) (Or.inr (hw _ w_23)) (by decide) (t := (.array .byte)) (t' := .byte) (by decide) (by decide)))).same W249
    exact r_V D249 hret hlk d_jdk_42m149_57 ⟨rfl, N249, ((((Keep.refl _ [x]).ext E246).wr W248 (Or.inl (List.mem_of_getElem? (i := 0) rfl))).wr W249 (Or.inl (List.mem_of_getElem? (i := 0) rfl))), t246, k246, (0 : Int32), _, _, (((E_x.ext E246).wr W248).wr W249), (F248.other W249 (Or.inr (slot_ne (Or.inr (hw _ w_23)) (Or.inr (hw _ w_22)) (by decide) (t := .byte) (t' := (.array .byte)) (by decide) (by decide)))), F249, ((V246.other W248 (Ne.symm (Nat.ne_of_lt (Nat.lt_of_lt_of_le E_x.lt g246)))).other W249 (Ne.symm (Nat.ne_of_lt (Nat.lt_of_lt_of_le E_x.lt g246)))), hk, (c16_cons H0 (c16_cons H1 (c16_cons H2 (c16_cons H3 c16_nil)))), Nat.le_of_ble_eq_true rfl⟩ (by decide) (by decide)
  · refine g_callSp D246 48 (hw _ w_66) (hw _ w_67) (hw _ w_61) (hw _ w_68) (by decide) ((cCod_4_1 l Z a0 hw [] t246 k246 _ h246 n0 (Nat.le_trans Z0 E246.1) V246).back D246 1 (hw _ w_68) (hw _ w_61) (by decide) (by decide)) rfl [(.ref t246), (.int (4 : Int32))] rfl (lenOf pd_6 rfl) rfl (Nat.le_of_eq rfl) (by decide) (by decide) d_jdk_42m149_45 rfl ?_
    intro v250 T250 q250 D250
    subst q250
    show Go p e below _ (T250.setTop (mkF m 48 #[.val (.ref x), .val (.ref b), .val (.int (0 : Int32)), .val (.int (4 : Int32)), .val .null, .val (.ref t246)] [(.int (1 : Int32)), (.ref x)]))
    refine g_putF D250 51 (hw _ w_27) Via.refl (F_c.ext E246) (E_x.ext E246) (Or.inr ⟨(hw _ w_23), rfl, hnm⟩) (hw _ w_7) (ty := .byte) (by decide) rfl rfl (fun _ _ => trivial) d_jdk_42m149_48 rfl ?_
    intro T251 h251 W251 D251
    have N251 := Fr.snoc D251.st NF246 gx
    have F251 := (F_c.ext E246).same W251
    refine g_aloadN D251 52 d_jdk_42m149_51 rfl rfl rfl ?_
    refine g_aload D251 54 d_jdk_42m149_52 rfl rfl rfl ?_
    refine g_putF D251 57 (hw _ w_26) Via.refl ((F_v.ext E246).other W251 (Or.inr (slot_ne (Or.inr (hw _ w_22)) (Or.inr (hw _ w_23)) (by decide) (t := (.array .byte)) (t' := .byte) (by decide) (by decide)))) ((E_x.ext E246).wr W251) (Or.inr ⟨(hw _ w_22), rfl, hnm⟩) (hw _ w_7) (ty := (.array .byte)) (by decide) rfl rfl (fun _ _ => trivial) d_jdk_42m149_54 rfl ?_
    intro T252 h252 W252 D252
    have N252 := Fr.snoc D252.st N251 gx
    have F252 := ((F_v.ext E246).other W251 (Or.inr (slot_ne (Or.inr (hw _ w_22)) (Or.inr (hw _ w_23)) (by decide) (t := (.array .byte)) (t' := .byte) (by decide) (by decide)))).same W252
    exact r_V D252 hret hlk d_jdk_42m149_57 ⟨rfl, N252, ((((Keep.refl _ [x]).ext E246).wr W251 (Or.inl (List.mem_of_getElem? (i := 0) rfl))).wr W252 (Or.inl (List.mem_of_getElem? (i := 0) rfl))), t246, k246, (1 : Int32), _, _, (((E_x.ext E246).wr W251).wr W252), (F251.other W252 (Or.inr (slot_ne (Or.inr (hw _ w_23)) (Or.inr (hw _ w_22)) (by decide) (t := .byte) (t' := (.array .byte)) (by decide) (by decide)))), F252, ((V246.other W251 (Ne.symm (Nat.ne_of_lt (Nat.lt_of_lt_of_le E_x.lt g246)))).other W252 (Ne.symm (Nat.ne_of_lt (Nat.lt_of_lt_of_le E_x.lt g246)))), hk, (c16_cons H0 (c16_cons H1 (c16_cons H2 (c16_cons H3 c16_nil)))), Nat.le_of_ble_eq_true rfl⟩ (by decide) (by decide)
def Q_cN1_4 (Z : State) (x b : Addr) (kc : ClassId) (zc : Int32) (c0 c1 c2 c3 : Int32) (h0 : Heap) (n0 : Nat) : Option Value → Heap → List Loc → Prop := (fun v h L => v = none ∧ Fr n0 L ∧ Keep h0 h [x] ∧ TS Z h x [c0, c1, c2, c3])
theorem cN1_4 (l : Launch) (Z : State) (a0 : Array Value) (hw : tHW Z a0) (ws : List Jvm.Cond) (x b : Addr) (kc : ClassId) (zc : Int32) (c0 c1 c2 c3 : Int32) (h0 : Heap) (n0 : Nat) (Z0 : n0 ≤ h0.size) (OLD : Old Z n0 h0) (SA : tSA Z) (SH : tSH Z) (SL : tSL Z) (CS : tCS Z zc) (hzc : ¬ zc = 0) (E_x : Exa Z h0 x "java/lang/String") (F_v : Fld Z h0 x "java/lang/String" "value" "[B" .null) (F_c : Fld Z h0 x "java/lang/String" "coder" "B" (.int (0 : Int32))) (gx : n0 ≤ x) (V_b : Arv Z h0 b kc .char (4 : Int32) [(.int c0), (.int c1), (.int c2), (.int c3)] (.int (0 : Int32))) (H0 : C16 c0) (H1 : C16 c1) (H2 : C16 c2) (H3 : C16 c3) :
    Con l (⟨"java/lang/String", "<init>", "([C)V"⟩ : MethodName) jdk_42_method_3_code 2 none ws ({ frames := 5, cells := 2, slots := 12, locals := 74 } : Room) Z #[(.ref x), (.ref b)] h0 (Q_cN1_4 Z x b kc zc c0 c1 c2 c3 h0 n0) 2 12 := by
  refine enter (plainFor_of_name pn_1) ?_
  intro p e s m below meth c s₁ hnm hret hlk D0
  rw [ef_cN1_4 m x b]
  refine g_aloadN D0 1 d_jdk_42m3_0 rfl rfl rfl ?_
  refine g_aloadN D0 2 d_jdk_42m3_1 rfl rfl rfl ?_
  refine g_iconst D0 3 (0 : Int32) d_jdk_42m3_2 rfl rfl ?_
  refine g_aloadN D0 4 d_jdk_42m3_3 rfl rfl rfl ?_
  refine g_alen D0 5 V_b d_jdk_42m3_4 rfl ?_
  refine g_aconst D0 6 d_jdk_42m3_5 rfl ?_
  refine g_callN D0 9 rfl (hw _ w_13) (hw _ w_14) (hw _ w_16) (by decide) ((cN4_4 l Z a0 hw [] x b kc zc c0 c1 c2 c3 h0 n0 Z0 OLD SA SH SL CS hzc E_x F_v F_c gx V_b H0 H1 H2 H3).back D0 0 (hw _ w_16) (hw _ w_8) (by decide) (by decide)) rfl [(.ref b), (.int (0 : Int32)), (.int (4 : Int32)), .null] rfl (lenOf pd_7 rfl) rfl (Nat.le_of_eq rfl) (by decide) (by decide) (fun _ _ _ _ => trivial) d_jdk_42m3_6 rfl ?_
  intro v253 T253 h253 L253 q253 D253
  obtain ⟨rfl, N1, K1, X1⟩ := q253
  rw [List.nil_append] at D253
  show Go p e below _ (T253.setTop (mkF m 9 #[.val (.ref x), .val (.ref b)] []))
  exact r_V D253 hret hlk d_jdk_42m3_9 ⟨rfl, N1, K1, X1⟩ (by decide) (by decide)
def Q_cE4 (Z : State) (x b : Addr) (h0 : Heap) (n0 : Nat) : Option Value → Heap → List Loc → Prop := (fun v h L => v = none ∧ Fr n0 L ∧ Keep h0 h [x] ∧ LS Z h x [])
theorem cE4 (l : Launch) (Z : State) (a0 : Array Value) (hw : tHW Z a0) (ws : List Jvm.Cond) (x b : Addr) (h0 : Heap) (n0 : Nat) (Z0 : n0 ≤ h0.size) (hEW : EW Z a0 consts_1) (E_x : Exa Z h0 x "java/lang/String") (F_v : Fld Z h0 x "java/lang/String" "value" "[B" .null) (F_c : Fld Z h0 x "java/lang/String" "coder" "B" (.int (0 : Int32))) (gx : n0 ≤ x) :
    ConW l (⟨"java/lang/String", "<init>", "([CIILjava/lang/Void;)V"⟩ : MethodName) jdk_42_method_149_code 6 none ws ({ frames := 1, cells := 4, slots := 8, locals := 12 } : Room) Z consts_1 #[(.ref x), (.ref b), (.int (0 : Int32)), (.int (0 : Int32)), .null] h0 (Q_cE4 Z x b h0 n0) 4 8 := by
  refine enterW (plainFor_of_name pn_1) ?_
  intro p e s m below meth c s₁ hnm hret hlk D0
  rw [ef_cE4 m x b]
  refine g_aloadN D0 1 d_jdk_42m149_0 rfl rfl rfl ?_
  refine g_initO D0 4 (hw _ w_17) (hw _ w_18) (hw _ w_19) rfl d_jdk_42m149_1 (by decide) (W := 0) (Nat.le_of_eq rfl) (by decide) rfl ?_
  intro T254 D254
  refine g_iloadN D254 5 d_jdk_42m149_4 rfl rfl ?_
  refine g_ifN D254 8 d_jdk_42m149_5 (by decide) rfl ?_
  refine g_aloadN D254 9 d_jdk_42m149_8 rfl rfl rfl ?_
  refine g_ldcS D254 11 hEW (hw _ w_20) (fun a ha => hw a (wsa a ha)) (by decide) [] 0 ⟨by decide, rfl⟩ ⟨by decide, by decide⟩ (by decide) (by decide) d_jdk_42m149_9 (by decide) (by decide) rfl ?_
  intro s255 T255 h255 la255 lt255 lk255 E255 X255 C255 V255 A255 HS255 SF255 D255
  have S255 := SF255 x E_x.lt (safe_null D254.wm.alike E_x F_v)
  refine g_getF D255 14 (hw _ w_26) Via.refl V255 d_jdk_42m149_11 rfl ?_
  intro T256 D256
  refine g_putF D256 17 (hw _ w_26) Via.refl (F_v.ext E255) (E_x.ext E255) (Or.inr ⟨(hw _ w_22), rfl, hnm⟩) (hw _ w_7) (ty := (.array .byte)) (by decide) rfl rfl (fun _ W => D256.iv.wr S255 W) d_jdk_42m149_14 rfl ?_
  intro T257 h257 W257 D257
  have N257 := Fr.snoc D257.st (Fr.nil n0) gx
  have F257 := (F_v.ext E255).same W257
  have S255b := D256.iv.safeWr S255 W257 S255
  refine g_aloadN D257 18 d_jdk_42m149_17 rfl rfl rfl ?_
  refine g_ldcS D257 20 hEW (hw _ w_20) (fun a ha => hw a (wsa a ha)) (by decide) [] 0 ⟨by decide, rfl⟩ ⟨by decide, by decide⟩ (by decide) (by decide) d_jdk_42m149_18 (by decide) (by decide) rfl ?_
  intro s258 T258 h258 la258 lt258 lk258 E258 X258 C258 V258 A258 HS258 SF258 D258
  have S258 := SF258 x ((E_x.ext E255).wr W257).lt S255b
  refine g_getF D258 23 (hw _ w_27) Via.refl C258 d_jdk_42m149_20 rfl ?_
  intro T259 D259
  refine g_putF D259 26 (hw _ w_27) Via.refl (((F_c.ext E255).other W257 (Or.inr (slot_ne (Or.inr (hw _ w_23)) (Or.inr (hw _ w_22)) (by decide) (t := .byte) (t' := (.array .byte)) (by decide) (by decide)))).ext E258) (((E_x.ext E255).wr W257).ext E258) (Or.inr ⟨(hw _ w_23), rfl, hnm⟩) (hw _ w_7) (ty := .byte) (by decide) rfl rfl (fun _ W => D259.iv.wr S258 W) d_jdk_42m149_23 rfl ?_
  intro T260 h260 W260 D260
  have N260 := Fr.snoc D260.st N257 gx
  have F260 := (((F_c.ext E255).other W257 (Or.inr (slot_ne (Or.inr (hw _ w_23)) (Or.inr (hw _ w_22)) (by decide) (t := .byte) (t' := (.array .byte)) (by decide) (by decide)))).ext E258).same W260
  exact r_Vw D260 hEW hret hlk d_jdk_42m149_26 ⟨rfl, N260, (((((Keep.refl _ [x]).ext E255).wr W257 (Or.inl (List.mem_of_getElem? (i := 0) rfl))).ext E258).wr W260 (Or.inl (List.mem_of_getElem? (i := 0) rfl))), lt255, lk255, ((((E_x.ext E255).wr W257).ext E258).wr W260), F260, ((F257.ext E258).other W260 (Or.inr (slot_ne (Or.inr (hw _ w_22)) (Or.inr (hw _ w_23)) (by decide) (t := (.array .byte)) (t' := .byte) (by decide) (by decide)))), (((A255.other W257 (Ne.symm (HS255 x S255).2)).ext E258).other W260 (Ne.symm (HS255 x S255).2)), b8_nil, by decide⟩ (by decide) (by decide)
def Q_cE1 (Z : State) (x b : Addr) (kb : ClassId) (h0 : Heap) (n0 : Nat) : Option Value → Heap → List Loc → Prop := (fun v h L => v = none ∧ Fr n0 L ∧ Keep h0 h [x] ∧ LS Z h x [])
theorem cE1 (l : Launch) (Z : State) (a0 : Array Value) (hw : tHW Z a0) (ws : List Jvm.Cond) (x b : Addr) (kb : ClassId) (h0 : Heap) (n0 : Nat) (Z0 : n0 ≤ h0.size) (hEW : EW Z a0 consts_1) (E_x : Exa Z h0 x "java/lang/String") (F_v : Fld Z h0 x "java/lang/String" "value" "[B" .null) (F_c : Fld Z h0 x "java/lang/String" "coder" "B" (.int (0 : Int32))) (gx : n0 ≤ x) (V_b : Arv Z h0 b kb .char (0 : Int32) [] (.int (0 : Int32))) :
    ConW l (⟨"java/lang/String", "<init>", "([C)V"⟩ : MethodName) jdk_42_method_3_code 2 none ws ({ frames := 2, cells := 4, slots := 8, locals := 29 } : Room) Z consts_1 #[(.ref x), (.ref b)] h0 (Q_cE1 Z x b kb h0 n0) 4 8 := by
  refine enterW (plainFor_of_name pn_1) ?_
  intro p e s m below meth c s₁ hnm hret hlk D0
  rw [ef_cE1 m x b]
  refine g_aloadN D0 1 d_jdk_42m3_0 rfl rfl rfl ?_
  refine g_aloadN D0 2 d_jdk_42m3_1 rfl rfl rfl ?_
  refine g_iconst D0 3 (0 : Int32) d_jdk_42m3_2 rfl rfl ?_
  refine g_aloadN D0 4 d_jdk_42m3_3 rfl rfl rfl ?_
  refine g_alen D0 5 V_b d_jdk_42m3_4 rfl ?_
  refine g_aconst D0 6 d_jdk_42m3_5 rfl ?_
  refine g_callNW D0 9 hEW rfl (hw _ w_13) (hw _ w_14) (hw _ w_8) (hw _ w_16) (by decide) (cE4 l Z a0 hw [] x b h0 n0 Z0 hEW E_x F_v F_c gx) rfl [(.ref b), (.int (0 : Int32)), (.int (0 : Int32)), .null] rfl (lenOf pd_7 rfl) rfl 0 (Nat.le_of_eq rfl) (by decide) (by decide) (by decide) (by decide) d_jdk_42m3_6 rfl ?_
  intro v261 s261 T261 h261 L261 q261 SF261 D261
  obtain ⟨rfl, N1, K1, X1⟩ := q261
  rw [List.nil_append] at D261
  show Go p e below _ (T261.setTop (mkF m 9 #[.val (.ref x), .val (.ref b)] []))
  exact r_Vw D261 hEW hret hlk d_jdk_42m3_9 ⟨rfl, N1, K1, X1⟩ (by decide) (by decide)
theorem cIL_0 (l : Launch) (Z : State) (a0 : Array Value) (hw : tHW Z a0) (ws : List Jvm.Cond) (x : Addr) (zc : Int32) (h0 : Heap) (n0 : Nat) (Z0 : n0 ≤ h0.size) (OLD : Old Z n0 h0) (CS : tCS Z zc) (hzc : ¬ zc = 0) (F_c : Fld Z h0 x "java/lang/String" "coder" "B" (.int (0 : Int32))) :
    Con l (⟨"java/lang/String", "isLatin1", "()Z"⟩ : MethodName) jdk_42_method_154_code 1 (some .boolean) ws ({ frames := 0, cells := 0, slots := 0, locals := 0 } : Room) Z #[(.ref x)] h0 (fun v h L => v = some (.int (1 : Int32)) ∧ L = [] ∧ h = h0) 0 0 := by
  refine enter (plainFor_of_name pn_1) ?_
  intro p e s m below meth c s₁ hnm hret hlk D0
  rw [ef_cIL_0 m x]
  refine g_getS D0 3 (hw _ w_58) Via.refl (CS.ext OLD.2) d_jdk_42m154_0 rfl ?_
  intro T262 D262
  refine g_ifN D262 6 d_jdk_42m154_3 (feq hzc).1 rfl ?_
  refine g_aloadN D262 7 d_jdk_42m154_6 rfl rfl rfl ?_
  refine g_getF D262 10 (hw _ w_27) Via.refl F_c d_jdk_42m154_7 rfl ?_
  intro T263 D263
  refine g_ifN D263 13 d_jdk_42m154_10 (by decide) rfl ?_
  refine g_iconst D263 14 (1 : Int32) d_jdk_42m154_13 rfl rfl ?_
  refine g_goto D263 18 d_jdk_42m154_14 (by decide) (by decide) ?_
  exact r_N D263 hret (by simp) hlk d_jdk_42m154_18 ⟨own_r1, rfl, rfl⟩ (by decide) (by decide)
theorem cIL_1 (l : Launch) (Z : State) (a0 : Array Value) (hw : tHW Z a0) (ws : List Jvm.Cond) (x : Addr) (zc : Int32) (h0 : Heap) (n0 : Nat) (Z0 : n0 ≤ h0.size) (OLD : Old Z n0 h0) (CS : tCS Z zc) (hzc : ¬ zc = 0) (F_c : Fld Z h0 x "java/lang/String" "coder" "B" (.int (1 : Int32))) :
    Con l (⟨"java/lang/String", "isLatin1", "()Z"⟩ : MethodName) jdk_42_method_154_code 1 (some .boolean) ws ({ frames := 0, cells := 0, slots := 0, locals := 0 } : Room) Z #[(.ref x)] h0 (fun v h L => v = some (.int (0 : Int32)) ∧ L = [] ∧ h = h0) 0 0 := by
  refine enter (plainFor_of_name pn_1) ?_
  intro p e s m below meth c s₁ hnm hret hlk D0
  rw [ef_cIL_1 m x]
  refine g_getS D0 3 (hw _ w_58) Via.refl (CS.ext OLD.2) d_jdk_42m154_0 rfl ?_
  intro T264 D264
  refine g_ifN D264 6 d_jdk_42m154_3 (feq hzc).1 rfl ?_
  refine g_aloadN D264 7 d_jdk_42m154_6 rfl rfl rfl ?_
  refine g_getF D264 10 (hw _ w_27) Via.refl F_c d_jdk_42m154_7 rfl ?_
  intro T265 D265
  refine g_ifY D265 17 d_jdk_42m154_10 (by decide) (by decide) (by decide) ?_
  refine g_iconst D265 18 (0 : Int32) d_jdk_42m154_17 rfl rfl ?_
  exact r_N D265 hret (by simp) hlk d_jdk_42m154_18 ⟨(by decide : some (Value.int (nar .boolean (0 : Int32))) = some (.int 0)), rfl, rfl⟩ (by decide) (by decide)
theorem cPCI_r (l : Launch) (Z : State) (a0 : Array Value) (hw : tHW Z a0) (ws : List Jvm.Cond) (i j : Int32) (fa : Addr) (h0 : Heap) (n0 : Nat) (Z0 : n0 ≤ h0.size) (hi0 : ¬ i < 0) (hi1 : i < j) :
    Con l (⟨"jdk/internal/util/Preconditions", "checkIndex", "(IILjava/util/function/BiFunction;)I"⟩ : MethodName) jdk_41_method_11_code 3 (some .int) ws ({ frames := 0, cells := 0, slots := 0, locals := 0 } : Room) Z #[(.int i), (.int j), (.ref fa)] h0 (fun v h L => v = some (.int i) ∧ L = [] ∧ h = h0) 0 0 := by
  refine enter (plainFor_of_name pn_2) ?_
  intro p e s m below meth c s₁ hnm hret hlk D0
  rw [ef_cPCI_r m i j fa]
  refine g_iloadN D0 1 d_jdk_41m11_0 rfl rfl ?_
  refine g_ifN D0 4 d_jdk_41m11_1 (flt hi0).1 rfl ?_
  refine g_iloadN D0 5 d_jdk_41m11_4 rfl rfl ?_
  refine g_iloadN D0 6 d_jdk_41m11_5 rfl rfl ?_
  refine g_icmpY D0 16 d_jdk_41m11_6 (tlt hi1).1 (by decide) (by decide) ?_
  refine g_iloadN D0 17 d_jdk_41m11_16 rfl rfl ?_
  exact r_I D0 hret hlk d_jdk_41m11_17 ⟨rfl, rfl, rfl⟩ (by decide) (by decide)
theorem cPCI_n (l : Launch) (Z : State) (a0 : Array Value) (hw : tHW Z a0) (ws : List Jvm.Cond) (i j : Int32) (h0 : Heap) (n0 : Nat) (Z0 : n0 ≤ h0.size) (hi0 : ¬ i < 0) (hi1 : i < j) :
    Con l (⟨"jdk/internal/util/Preconditions", "checkIndex", "(IILjava/util/function/BiFunction;)I"⟩ : MethodName) jdk_41_method_11_code 3 (some .int) ws ({ frames := 0, cells := 0, slots := 0, locals := 0 } : Room) Z #[(.int i), (.int j), .null] h0 (fun v h L => v = some (.int i) ∧ L = [] ∧ h = h0) 0 0 := by
  refine enter (plainFor_of_name pn_2) ?_
  intro p e s m below meth c s₁ hnm hret hlk D0
  rw [ef_cPCI_n m i j]
  refine g_iloadN D0 1 d_jdk_41m11_0 rfl rfl ?_
  refine g_ifN D0 4 d_jdk_41m11_1 (flt hi0).1 rfl ?_
  refine g_iloadN D0 5 d_jdk_41m11_4 rfl rfl ?_
  refine g_iloadN D0 6 d_jdk_41m11_5 rfl rfl ?_
  refine g_icmpY D0 16 d_jdk_41m11_6 (tlt hi1).1 (by decide) (by decide) ?_
  refine g_iloadN D0 17 d_jdk_41m11_16 rfl rfl ?_
  exact r_I D0 hret hlk d_jdk_41m11_17 ⟨rfl, rfl, rfl⟩ (by decide) (by decide)
theorem cSCI (l : Launch) (Z : State) (a0 : Array Value) (hw : tHW Z a0) (ws : List Jvm.Cond) (i j : Int32) (fm : Value) (h0 : Heap) (n0 : Nat) (Z0 : n0 ≤ h0.size) (OLD : Old Z n0 h0) (SFm : tSF Z fm) (rfm : fm.isRef = true) (hi0 : ¬ i < 0) (hi1 : i < j) :
    Con l (⟨"java/lang/String", "checkIndex", "(II)V"⟩ : MethodName) jdk_42_method_155_code 2 none ws ({ frames := 1, cells := 0, slots := 0, locals := 14 } : Room) Z #[(.int i), (.int j)] h0 (fun v h L => v = none ∧ L = [] ∧ h = h0) 0 0 := by
  refine enter (plainFor_of_name pn_1) ?_
  intro p e s m below meth c s₁ hnm hret hlk D0
  rw [ef_cSCI m i j]
  obtain ⟨fa, rfl⟩ | rfl := ref_cases rfm
  · refine g_iloadN D0 1 d_jdk_42m155_0 rfl rfl ?_
    refine g_iloadN D0 2 d_jdk_42m155_1 rfl rfl ?_
    refine g_getS D0 5 (hw _ w_92) Via.refl (SFm.ext OLD.2) d_jdk_42m155_2 rfl ?_
    intro T266 D266
    refine g_callSp D266 8 (hw _ w_94) (hw _ w_95) (hw _ w_93) (hw _ w_96) (by decide) ((cPCI_r l Z a0 hw [] i j fa h0 n0 Z0 hi0 hi1).back D266 0 (hw _ w_96) (hw _ w_93) (by decide) (by decide)) rfl [(.int i), (.int j), (.ref fa)] rfl (lenOf pd_8 rfl) rfl (Nat.le_of_eq rfl) (by decide) (by decide) d_jdk_42m155_5 rfl ?_
    intro v267 T267 q267 D267
    subst q267
    show Go p e below _ (T267.setTop (mkF m 8 #[.val (.int i), .val (.int j)] [(.int i)]))
    refine g_pop D267 9 d_jdk_42m155_8 rfl rfl ?_
    exact r_V D267 hret hlk d_jdk_42m155_9 ⟨rfl, rfl, rfl⟩ (by decide) (by decide)
  · refine g_iloadN D0 1 d_jdk_42m155_0 rfl rfl ?_
    refine g_iloadN D0 2 d_jdk_42m155_1 rfl rfl ?_
    refine g_getS D0 5 (hw _ w_92) Via.refl (SFm.ext OLD.2) d_jdk_42m155_2 rfl ?_
    intro T268 D268
    refine g_callSp D268 8 (hw _ w_94) (hw _ w_95) (hw _ w_93) (hw _ w_96) (by decide) ((cPCI_n l Z a0 hw [] i j h0 n0 Z0 hi0 hi1).back D268 0 (hw _ w_96) (hw _ w_93) (by decide) (by decide)) rfl [(.int i), (.int j), .null] rfl (lenOf pd_8 rfl) rfl (Nat.le_of_eq rfl) (by decide) (by decide) d_jdk_42m155_5 rfl ?_
    intro v269 T269 q269 D269
    subst q269
    show Go p e below _ (T269.setTop (mkF m 8 #[.val (.int i), .val (.int j)] [(.int i)]))
    refine g_pop D269 9 d_jdk_42m155_8 rfl rfl ?_
    exact r_V D269 hret hlk d_jdk_42m155_9 ⟨rfl, rfl, rfl⟩ (by decide) (by decide)
theorem cUL (l : Launch) (Z : State) (a0 : Array Value) (hw : tHW Z a0) (ws : List Jvm.Cond) (t : Addr) (kb : ClassId) (vs : List Value) (N2 N : Int32) (h0 : Heap) (n0 : Nat) (Z0 : n0 ≤ h0.size) (V_t : Arv Z h0 t kb .byte N2 vs (.int (0 : Int32))) (hN : N2 >>> ((1 : Int32) &&& 31) = N) :
    Con l (⟨"java/lang/StringUTF16", "length", "([B)I"⟩ : MethodName) jdk_52_method_6_code 1 (some .int) ws ({ frames := 0, cells := 0, slots := 0, locals := 0 } : Room) Z #[(.ref t)] h0 (fun v h L => v = some (.int N) ∧ L = [] ∧ h = h0) 0 0 := by
  refine enter (plainFor_of_name pn_0) ?_
  intro p e s m below meth c s₁ hnm hret hlk D0
  rw [ef_cUL m t]
  refine g_aloadN D0 1 d_jdk_52m6_0 rfl rfl rfl ?_
  refine g_alen D0 2 V_t d_jdk_52m6_1 rfl ?_
  refine g_iconst D0 3 (1 : Int32) d_jdk_52m6_2 rfl rfl ?_
  refine g_ishr D0 4 d_jdk_52m6_3 rfl ?_
  exact r_I D0 hret hlk d_jdk_52m6_4 ⟨congrArg (fun z => some (Value.int z)) hN, rfl, rfl⟩ (by decide) (by decide)
theorem cLCh (l : Launch) (Z : State) (a0 : Array Value) (hw : tHW Z a0) (ws : List Jvm.Cond) (t : Addr) (kb : ClassId) (vs : List Value) (N2 i ch : Int32) (fm : Value) (h0 : Heap) (n0 : Nat) (Z0 : n0 ≤ h0.size) (OLD : Old Z n0 h0) (SFm : tSF Z fm) (rfm : fm.isRef = true) (V_t : Arv Z h0 t kb .byte N2 vs (.int (0 : Int32))) (hj : ¬ i < 0 ∧ i < N2) (hu : vs.getD i.toNatClampNeg (.int (0 : Int32)) = .int (StrChars.lo8 ch)) (Hi : C16 ch) (Ui : ¬ (255 : Int32) < ch) :
    Con l (⟨"java/lang/StringLatin1", "charAt", "([BI)C"⟩ : MethodName) jdk_43_method_2_code 2 (some .char) ws ({ frames := 2, cells := 0, slots := 0, locals := 27 } : Room) Z #[(.ref t), (.int i)] h0 (fun v h L => v = some (.int ch) ∧ L = [] ∧ h = h0) 0 0 := by
  refine enter (plainFor_of_name pn_3) ?_
  intro p e s m below meth c s₁ hnm hret hlk D0
  rw [ef_cLCh m t i]
  refine g_iloadN D0 1 d_jdk_43m2_0 rfl rfl ?_
  refine g_aloadN D0 2 d_jdk_43m2_1 rfl rfl rfl ?_
  refine g_alen D0 3 V_t d_jdk_43m2_2 rfl ?_
  refine g_callSp D0 6 (hw _ w_89) (hw _ w_90) (hw _ w_8) (hw _ w_91) (by decide) ((cSCI l Z a0 hw [] i N2 fm h0 n0 Z0 OLD SFm rfm hj.1 hj.2).back D0 0 (hw _ w_91) (hw _ w_8) (by decide) (by decide)) rfl [(.int i), (.int N2)] rfl (lenOf pd_9 rfl) rfl (Nat.le_of_eq rfl) (by decide) (by decide) d_jdk_43m2_3 rfl ?_
  intro v270 T270 q270 D270
  subst q270
  show Go p e below _ (T270.setTop (mkF m 6 #[.val (.ref t), .val (.int i)] []))
  refine g_aloadN D270 7 d_jdk_43m2_6 rfl rfl rfl ?_
  refine g_iloadN D270 8 d_jdk_43m2_7 rfl rfl ?_
  refine g_baload D270 9 V_t hj hu d_jdk_43m2_8 rfl ?_
  refine g_sipush D270 12 (255 : Int32) d_jdk_43m2_9 rfl rfl ?_
  refine g_iand D270 13 d_jdk_43m2_12 rfl ?_
  refine g_i2c D270 14 d_jdk_43m2_13 rfl ?_
  exact r_N D270 hret (by simp) hlk d_jdk_43m2_14 ⟨congrArg (fun z => some (Value.int z)) (lch_says Hi Ui), rfl, rfl⟩ (by decide) (by decide)
theorem cUCI (l : Launch) (Z : State) (a0 : Array Value) (hw : tHW Z a0) (ws : List Jvm.Cond) (t : Addr) (kb : ClassId) (vs : List Value) (N2 N i : Int32) (fm : Value) (h0 : Heap) (n0 : Nat) (Z0 : n0 ≤ h0.size) (OLD : Old Z n0 h0) (SFm : tSF Z fm) (rfm : fm.isRef = true) (V_t : Arv Z h0 t kb .byte N2 vs (.int (0 : Int32))) (hN : N2 >>> ((1 : Int32) &&& 31) = N) (hi : ¬ i < 0 ∧ i < N) :
    Con l (⟨"java/lang/StringUTF16", "checkIndex", "(I[B)V"⟩ : MethodName) jdk_52_method_91_code 2 none ws ({ frames := 2, cells := 0, slots := 0, locals := 27 } : Room) Z #[(.int i), (.ref t)] h0 (fun v h L => v = none ∧ L = [] ∧ h = h0) 0 0 := by
  refine enter (plainFor_of_name pn_0) ?_
  intro p e s m below meth c s₁ hnm hret hlk D0
  rw [ef_cUCI m i t]
  refine g_iloadN D0 1 d_jdk_52m91_0 rfl rfl ?_
  refine g_aloadN D0 2 d_jdk_52m91_1 rfl rfl rfl ?_
  refine g_callSp D0 5 (hw _ w_122) (hw _ w_123) (hw _ w_61) (hw _ w_124) (by decide) ((cUL l Z a0 hw [] t kb vs N2 N h0 n0 Z0 V_t hN).back D0 1 (hw _ w_124) (hw _ w_61) (by decide) (by decide)) rfl [(.ref t)] rfl (lenOf pd_10 rfl) rfl (Nat.le_of_eq rfl) (by decide) (by decide) d_jdk_52m91_2 rfl ?_
  intro v271 T271 q271 D271
  subst q271
  show Go p e below _ (T271.setTop (mkF m 5 #[.val (.int i), .val (.ref t)] [(.int N), (.int i)]))
  refine g_callSp D271 8 (hw _ w_125) (hw _ w_90) (hw _ w_8) (hw _ w_91) (by decide) ((cSCI l Z a0 hw [] i N fm h0 n0 Z0 OLD SFm rfm hi.1 hi.2).back D271 0 (hw _ w_91) (hw _ w_8) (by decide) (by decide)) rfl [(.int i), (.int N)] rfl (lenOf pd_9 rfl) rfl (Nat.le_of_eq rfl) (by decide) (by decide) d_jdk_52m91_5 rfl ?_
  intro v272 T272 q272 D272
  subst q272
  show Go p e below _ (T272.setTop (mkF m 8 #[.val (.int i), .val (.ref t)] []))
  exact r_V D272 hret hlk d_jdk_52m91_8 ⟨rfl, rfl, rfl⟩ (by decide) (by decide)
theorem cUCh (l : Launch) (Z : State) (a0 : Array Value) (hw : tHW Z a0) (ws : List Jvm.Cond) (t : Addr) (kb : ClassId) (vs : List Value) (N2 N i j ch : Int32) (fm : Value) (h0 : Heap) (n0 : Nat) (Z0 : n0 ≤ h0.size) (OLD : Old Z n0 h0) (SA : tSA Z) (SH : tSH Z) (SL : tSL Z) (SFm : tSF Z fm) (rfm : fm.isRef = true) (V_t : Arv Z h0 t kb .byte N2 vs (.int (0 : Int32))) (hN : N2 >>> ((1 : Int32) &&& 31) = N) (hi : ¬ i < 0 ∧ i < N) (hs : i <<< ((1 : Int32) &&& 31) = j) (hj : ¬ j < 0 ∧ j < N2) (hj1 : ¬ (j + (1 : Int32)) < 0 ∧ (j + (1 : Int32)) < N2) (hu : vs.getD j.toNatClampNeg (.int (0 : Int32)) = .int (StrChars.lo8 ch)) (hv : vs.getD (j + (1 : Int32)).toNatClampNeg (.int (0 : Int32)) = .int (StrChars.hi8 ch)) (Hi : C16 ch) :
    Con l (⟨"java/lang/StringUTF16", "charAt", "([BI)C"⟩ : MethodName) jdk_52_method_83_code 2 (some .char) ws ({ frames := 3, cells := 0, slots := 0, locals := 40 } : Room) Z #[(.ref t), (.int i)] h0 (fun v h L => v = some (.int ch) ∧ L = [] ∧ h = h0) 0 0 := by
  refine enter (plainFor_of_name pn_0) ?_
  intro p e s m below meth c s₁ hnm hret hlk D0
  rw [ef_cUCh m t i]
  refine g_iloadN D0 1 d_jdk_52m83_0 rfl rfl ?_
  refine g_aloadN D0 2 d_jdk_52m83_1 rfl rfl rfl ?_
  refine g_callSp D0 5 (hw _ w_119) (hw _ w_120) (hw _ w_61) (hw _ w_121) (by decide) ((cUCI l Z a0 hw [] t kb vs N2 N i fm h0 n0 Z0 OLD SFm rfm V_t hN hi).back D0 0 (hw _ w_121) (hw _ w_61) (by decide) (by decide)) rfl [(.int i), (.ref t)] rfl (lenOf pd_11 rfl) rfl (Nat.le_of_eq rfl) (by decide) (by decide) d_jdk_52m83_2 rfl ?_
  intro v273 T273 q273 D273
  subst q273
  show Go p e below _ (T273.setTop (mkF m 5 #[.val (.ref t), .val (.int i)] []))
  refine g_aloadN D273 6 d_jdk_52m83_5 rfl rfl rfl ?_
  refine g_iloadN D273 7 d_jdk_52m83_6 rfl rfl ?_
  refine g_callSp D273 10 (hw _ w_113) (hw _ w_114) (hw _ w_61) (hw _ w_115) (by decide) ((cGet l Z a0 hw [] t kb vs N2 i j ch h0 n0 Z0 OLD SA SH SL V_t hs hj hj1 hu hv Hi).back D273 0 (hw _ w_115) (hw _ w_61) (by decide) (by decide)) rfl [(.ref t), (.int i)] rfl (lenOf pd_5 rfl) rfl (Nat.le_of_eq rfl) (by decide) (by decide) d_jdk_52m83_7 rfl ?_
  intro v274 T274 q274 D274
  subst q274
  show Go p e below _ (T274.setTop (mkF m 10 #[.val (.ref t), .val (.int i)] [(.int ch)]))
  exact r_N D274 hret (by simp) hlk d_jdk_52m83_10 ⟨congrArg (fun z => some (Value.int z)) (nar16 Hi), rfl, rfl⟩ (by decide) (by decide)
theorem cSCh_1_0 (l : Launch) (Z : State) (a0 : Array Value) (hw : tHW Z a0) (ws : List Jvm.Cond) (x : Addr) (zc : Int32) (fm : Value) (c0 : Int32) (h0 : Heap) (n0 : Nat) (Z0 : n0 ≤ h0.size) (OLD : Old Z n0 h0) (SA : tSA Z) (SH : tSH Z) (SL : tSL Z) (CS : tCS Z zc) (hzc : ¬ zc = 0) (SFm : tSF Z fm) (rfm : fm.isRef = true) (X_x : TS Z h0 x [c0]) :
    Con l (⟨"java/lang/String", "charAt", "(I)C"⟩ : MethodName) jdk_42_method_56_code 2 (some .char) ws ({ frames := 4, cells := 0, slots := 0, locals := 53 } : Room) Z #[(.ref x), (.int (0 : Int32))] h0 (fun v h L => v = some (.int c0) ∧ L = [] ∧ h = h0) 0 0 := by
  refine enter (plainFor_of_name pn_1) ?_
  intro p e s m below meth c s₁ hnm hret hlk D0
  rw [ef_cSCh_1_0 m x]
  obtain ⟨t, kb, cd, N2, vs, f1, f2, f3, f4, f5, f6, -⟩ := X_x
  have Hi := f6 c0 (List.mem_of_getElem? (i := 0) rfl)
  rcases f5 with ⟨rfl, rfl, rfl, fu⟩ | ⟨rfl, rfl, rfl, fe⟩
  · refine g_aloadN D0 1 d_jdk_42m56_0 rfl rfl rfl ?_
    refine g_callVp D0 4 (hw _ w_80) (hw _ w_81) (notFace_of_selects (args := #[]) (mvT D0.wm (hw _ w_83))) (hw _ w_83) (hw _ w_82) (by decide) ((cIL_0 l Z a0 hw [] x zc h0 n0 Z0 OLD CS hzc f2).back D0 0 (hw _ w_84) (hw _ w_8) (by decide) (by decide)) f1 rfl [] rfl (lenOf pd_12 rfl) rfl (Nat.le_of_eq rfl) (by decide) (by decide) d_jdk_42m56_1 rfl ?_
    intro v275 T275 q275 D275
    subst q275
    show Go p e below _ (T275.setTop (mkF m 4 #[.val (.ref x), .val (.int (0 : Int32))] [(.int (1 : Int32))]))
    refine g_ifN D275 7 d_jdk_42m56_4 (by decide) rfl ?_
    refine g_aloadN D275 8 d_jdk_42m56_7 rfl rfl rfl ?_
    refine g_getF D275 11 (hw _ w_26) Via.refl f3 d_jdk_42m56_8 rfl ?_
    intro T276 D276
    refine g_iloadN D276 12 d_jdk_42m56_11 rfl rfl ?_
    refine g_callSp D276 15 (hw _ w_85) (hw _ w_86) (hw _ w_87) (hw _ w_88) (by decide) ((cLCh l Z a0 hw [] t kb [(.int (StrChars.lo8 c0))] (1 : Int32) (0 : Int32) c0 fm h0 n0 Z0 OLD SFm rfm f4 ⟨by decide, by decide⟩ rfl Hi (fu c0 (List.mem_of_getElem? (i := 0) rfl))).back D276 0 (hw _ w_88) (hw _ w_87) (by decide) (by decide)) rfl [(.ref t), (.int (0 : Int32))] rfl (lenOf pd_5 rfl) rfl (Nat.le_of_eq rfl) (by decide) (by decide) d_jdk_42m56_12 rfl ?_
    intro v277 T277 q277 D277
    subst q277
    show Go p e below _ (T277.setTop (mkF m 15 #[.val (.ref x), .val (.int (0 : Int32))] [(.int c0)]))
    exact r_N D277 hret (by simp) hlk d_jdk_42m56_15 ⟨congrArg (fun z => some (Value.int z)) (nar16 Hi), rfl, rfl⟩ (by decide) (by decide)
  · refine g_aloadN D0 1 d_jdk_42m56_0 rfl rfl rfl ?_
    refine g_callVp D0 4 (hw _ w_80) (hw _ w_81) (notFace_of_selects (args := #[]) (mvT D0.wm (hw _ w_83))) (hw _ w_83) (hw _ w_82) (by decide) ((cIL_1 l Z a0 hw [] x zc h0 n0 Z0 OLD CS hzc f2).back D0 0 (hw _ w_84) (hw _ w_8) (by decide) (by decide)) f1 rfl [] rfl (lenOf pd_12 rfl) rfl (Nat.le_of_eq rfl) (by decide) (by decide) d_jdk_42m56_1 rfl ?_
    intro v278 T278 q278 D278
    subst q278
    show Go p e below _ (T278.setTop (mkF m 4 #[.val (.ref x), .val (.int (0 : Int32))] [(.int (0 : Int32))]))
    refine g_ifY D278 16 d_jdk_42m56_4 (by decide) (by decide) (by decide) ?_
    refine g_aloadN D278 17 d_jdk_42m56_16 rfl rfl rfl ?_
    refine g_getF D278 20 (hw _ w_26) Via.refl f3 d_jdk_42m56_17 rfl ?_
    intro T279 D279
    refine g_iloadN D279 21 d_jdk_42m56_20 rfl rfl ?_
    refine g_callSp D279 24 (hw _ w_116) (hw _ w_117) (hw _ w_61) (hw _ w_118) (by decide) ((cUCh l Z a0 hw [] t kb (StrChars.Road.wideBytes [c0]) (2 : Int32) (1 : Int32) (0 : Int32) (0 : Int32) c0 fm h0 n0 Z0 OLD SA SH SL SFm rfm f4 (by decide) ⟨by decide, by decide⟩ (by decide) ⟨by decide, by decide⟩ ⟨by decide, by decide⟩ rfl rfl Hi).back D279 0 (hw _ w_118) (hw _ w_61) (by decide) (by decide)) rfl [(.ref t), (.int (0 : Int32))] rfl (lenOf pd_5 rfl) rfl (Nat.le_of_eq rfl) (by decide) (by decide) d_jdk_42m56_21 rfl ?_
    intro v280 T280 q280 D280
    subst q280
    show Go p e below _ (T280.setTop (mkF m 24 #[.val (.ref x), .val (.int (0 : Int32))] [(.int c0)]))
    exact r_N D280 hret (by simp) hlk d_jdk_42m56_24 ⟨congrArg (fun z => some (Value.int z)) (nar16 Hi), rfl, rfl⟩ (by decide) (by decide)
theorem cSCh_2_0 (l : Launch) (Z : State) (a0 : Array Value) (hw : tHW Z a0) (ws : List Jvm.Cond) (x : Addr) (zc : Int32) (fm : Value) (c0 c1 : Int32) (h0 : Heap) (n0 : Nat) (Z0 : n0 ≤ h0.size) (OLD : Old Z n0 h0) (SA : tSA Z) (SH : tSH Z) (SL : tSL Z) (CS : tCS Z zc) (hzc : ¬ zc = 0) (SFm : tSF Z fm) (rfm : fm.isRef = true) (X_x : TS Z h0 x [c0, c1]) :
    Con l (⟨"java/lang/String", "charAt", "(I)C"⟩ : MethodName) jdk_42_method_56_code 2 (some .char) ws ({ frames := 4, cells := 0, slots := 0, locals := 53 } : Room) Z #[(.ref x), (.int (0 : Int32))] h0 (fun v h L => v = some (.int c0) ∧ L = [] ∧ h = h0) 0 0 := by
  refine enter (plainFor_of_name pn_1) ?_
  intro p e s m below meth c s₁ hnm hret hlk D0
  rw [ef_cSCh_2_0 m x]
  obtain ⟨t, kb, cd, N2, vs, f1, f2, f3, f4, f5, f6, -⟩ := X_x
  have Hi := f6 c0 (List.mem_of_getElem? (i := 0) rfl)
  rcases f5 with ⟨rfl, rfl, rfl, fu⟩ | ⟨rfl, rfl, rfl, fe⟩
  · refine g_aloadN D0 1 d_jdk_42m56_0 rfl rfl rfl ?_
    refine g_callVp D0 4 (hw _ w_80) (hw _ w_81) (notFace_of_selects (args := #[]) (mvT D0.wm (hw _ w_83))) (hw _ w_83) (hw _ w_82) (by decide) ((cIL_0 l Z a0 hw [] x zc h0 n0 Z0 OLD CS hzc f2).back D0 0 (hw _ w_84) (hw _ w_8) (by decide) (by decide)) f1 rfl [] rfl (lenOf pd_12 rfl) rfl (Nat.le_of_eq rfl) (by decide) (by decide) d_jdk_42m56_1 rfl ?_
    intro v281 T281 q281 D281
    subst q281
    show Go p e below _ (T281.setTop (mkF m 4 #[.val (.ref x), .val (.int (0 : Int32))] [(.int (1 : Int32))]))
    refine g_ifN D281 7 d_jdk_42m56_4 (by decide) rfl ?_
    refine g_aloadN D281 8 d_jdk_42m56_7 rfl rfl rfl ?_
    refine g_getF D281 11 (hw _ w_26) Via.refl f3 d_jdk_42m56_8 rfl ?_
    intro T282 D282
    refine g_iloadN D282 12 d_jdk_42m56_11 rfl rfl ?_
    refine g_callSp D282 15 (hw _ w_85) (hw _ w_86) (hw _ w_87) (hw _ w_88) (by decide) ((cLCh l Z a0 hw [] t kb [(.int (StrChars.lo8 c0)), (.int (StrChars.lo8 c1))] (2 : Int32) (0 : Int32) c0 fm h0 n0 Z0 OLD SFm rfm f4 ⟨by decide, by decide⟩ rfl Hi (fu c0 (List.mem_of_getElem? (i := 0) rfl))).back D282 0 (hw _ w_88) (hw _ w_87) (by decide) (by decide)) rfl [(.ref t), (.int (0 : Int32))] rfl (lenOf pd_5 rfl) rfl (Nat.le_of_eq rfl) (by decide) (by decide) d_jdk_42m56_12 rfl ?_
    intro v283 T283 q283 D283
    subst q283
    show Go p e below _ (T283.setTop (mkF m 15 #[.val (.ref x), .val (.int (0 : Int32))] [(.int c0)]))
    exact r_N D283 hret (by simp) hlk d_jdk_42m56_15 ⟨congrArg (fun z => some (Value.int z)) (nar16 Hi), rfl, rfl⟩ (by decide) (by decide)
  · refine g_aloadN D0 1 d_jdk_42m56_0 rfl rfl rfl ?_
    refine g_callVp D0 4 (hw _ w_80) (hw _ w_81) (notFace_of_selects (args := #[]) (mvT D0.wm (hw _ w_83))) (hw _ w_83) (hw _ w_82) (by decide) ((cIL_1 l Z a0 hw [] x zc h0 n0 Z0 OLD CS hzc f2).back D0 0 (hw _ w_84) (hw _ w_8) (by decide) (by decide)) f1 rfl [] rfl (lenOf pd_12 rfl) rfl (Nat.le_of_eq rfl) (by decide) (by decide) d_jdk_42m56_1 rfl ?_
    intro v284 T284 q284 D284
    subst q284
    show Go p e below _ (T284.setTop (mkF m 4 #[.val (.ref x), .val (.int (0 : Int32))] [(.int (0 : Int32))]))
    refine g_ifY D284 16 d_jdk_42m56_4 (by decide) (by decide) (by decide) ?_
    refine g_aloadN D284 17 d_jdk_42m56_16 rfl rfl rfl ?_
    refine g_getF D284 20 (hw _ w_26) Via.refl f3 d_jdk_42m56_17 rfl ?_
    intro T285 D285
    refine g_iloadN D285 21 d_jdk_42m56_20 rfl rfl ?_
    refine g_callSp D285 24 (hw _ w_116) (hw _ w_117) (hw _ w_61) (hw _ w_118) (by decide) ((cUCh l Z a0 hw [] t kb (StrChars.Road.wideBytes [c0, c1]) (4 : Int32) (2 : Int32) (0 : Int32) (0 : Int32) c0 fm h0 n0 Z0 OLD SA SH SL SFm rfm f4 (by decide) ⟨by decide, by decide⟩ (by decide) ⟨by decide, by decide⟩ ⟨by decide, by decide⟩ rfl rfl Hi).back D285 0 (hw _ w_118) (hw _ w_61) (by decide) (by decide)) rfl [(.ref t), (.int (0 : Int32))] rfl (lenOf pd_5 rfl) rfl (Nat.le_of_eq rfl) (by decide) (by decide) d_jdk_42m56_21 rfl ?_
    intro v286 T286 q286 D286
    subst q286
    show Go p e below _ (T286.setTop (mkF m 24 #[.val (.ref x), .val (.int (0 : Int32))] [(.int c0)]))
    exact r_N D286 hret (by simp) hlk d_jdk_42m56_24 ⟨congrArg (fun z => some (Value.int z)) (nar16 Hi), rfl, rfl⟩ (by decide) (by decide)
theorem cSCh_2_1 (l : Launch) (Z : State) (a0 : Array Value) (hw : tHW Z a0) (ws : List Jvm.Cond) (x : Addr) (zc : Int32) (fm : Value) (c0 c1 : Int32) (h0 : Heap) (n0 : Nat) (Z0 : n0 ≤ h0.size) (OLD : Old Z n0 h0) (SA : tSA Z) (SH : tSH Z) (SL : tSL Z) (CS : tCS Z zc) (hzc : ¬ zc = 0) (SFm : tSF Z fm) (rfm : fm.isRef = true) (X_x : TS Z h0 x [c0, c1]) :
    Con l (⟨"java/lang/String", "charAt", "(I)C"⟩ : MethodName) jdk_42_method_56_code 2 (some .char) ws ({ frames := 4, cells := 0, slots := 0, locals := 53 } : Room) Z #[(.ref x), (.int (1 : Int32))] h0 (fun v h L => v = some (.int c1) ∧ L = [] ∧ h = h0) 0 0 := by
  refine enter (plainFor_of_name pn_1) ?_
  intro p e s m below meth c s₁ hnm hret hlk D0
  rw [ef_cSCh_2_1 m x]
  obtain ⟨t, kb, cd, N2, vs, f1, f2, f3, f4, f5, f6, -⟩ := X_x
  have Hi := f6 c1 (List.mem_of_getElem? (i := 1) rfl)
  rcases f5 with ⟨rfl, rfl, rfl, fu⟩ | ⟨rfl, rfl, rfl, fe⟩
  · refine g_aloadN D0 1 d_jdk_42m56_0 rfl rfl rfl ?_
    refine g_callVp D0 4 (hw _ w_80) (hw _ w_81) (notFace_of_selects (args := #[]) (mvT D0.wm (hw _ w_83))) (hw _ w_83) (hw _ w_82) (by decide) ((cIL_0 l Z a0 hw [] x zc h0 n0 Z0 OLD CS hzc f2).back D0 0 (hw _ w_84) (hw _ w_8) (by decide) (by decide)) f1 rfl [] rfl (lenOf pd_12 rfl) rfl (Nat.le_of_eq rfl) (by decide) (by decide) d_jdk_42m56_1 rfl ?_
    intro v287 T287 q287 D287
    subst q287
    show Go p e below _ (T287.setTop (mkF m 4 #[.val (.ref x), .val (.int (1 : Int32))] [(.int (1 : Int32))]))
    refine g_ifN D287 7 d_jdk_42m56_4 (by decide) rfl ?_
    refine g_aloadN D287 8 d_jdk_42m56_7 rfl rfl rfl ?_
    refine g_getF D287 11 (hw _ w_26) Via.refl f3 d_jdk_42m56_8 rfl ?_
    intro T288 D288
    refine g_iloadN D288 12 d_jdk_42m56_11 rfl rfl ?_
    refine g_callSp D288 15 (hw _ w_85) (hw _ w_86) (hw _ w_87) (hw _ w_88) (by decide) ((cLCh l Z a0 hw [] t kb [(.int (StrChars.lo8 c0)), (.int (StrChars.lo8 c1))] (2 : Int32) (1 : Int32) c1 fm h0 n0 Z0 OLD SFm rfm f4 ⟨by decide, by decide⟩ rfl Hi (fu c1 (List.mem_of_getElem? (i := 1) rfl))).back D288 0 (hw _ w_88) (hw _ w_87) (by decide) (by decide)) rfl [(.ref t), (.int (1 : Int32))] rfl (lenOf pd_5 rfl) rfl (Nat.le_of_eq rfl) (by decide) (by decide) d_jdk_42m56_12 rfl ?_
    intro v289 T289 q289 D289
    subst q289
    show Go p e below _ (T289.setTop (mkF m 15 #[.val (.ref x), .val (.int (1 : Int32))] [(.int c1)]))
    exact r_N D289 hret (by simp) hlk d_jdk_42m56_15 ⟨congrArg (fun z => some (Value.int z)) (nar16 Hi), rfl, rfl⟩ (by decide) (by decide)
  · refine g_aloadN D0 1 d_jdk_42m56_0 rfl rfl rfl ?_
    refine g_callVp D0 4 (hw _ w_80) (hw _ w_81) (notFace_of_selects (args := #[]) (mvT D0.wm (hw _ w_83))) (hw _ w_83) (hw _ w_82) (by decide) ((cIL_1 l Z a0 hw [] x zc h0 n0 Z0 OLD CS hzc f2).back D0 0 (hw _ w_84) (hw _ w_8) (by decide) (by decide)) f1 rfl [] rfl (lenOf pd_12 rfl) rfl (Nat.le_of_eq rfl) (by decide) (by decide) d_jdk_42m56_1 rfl ?_
    intro v290 T290 q290 D290
    subst q290
    show Go p e below _ (T290.setTop (mkF m 4 #[.val (.ref x), .val (.int (1 : Int32))] [(.int (0 : Int32))]))
    refine g_ifY D290 16 d_jdk_42m56_4 (by decide) (by decide) (by decide) ?_
    refine g_aloadN D290 17 d_jdk_42m56_16 rfl rfl rfl ?_
    refine g_getF D290 20 (hw _ w_26) Via.refl f3 d_jdk_42m56_17 rfl ?_
    intro T291 D291
    refine g_iloadN D291 21 d_jdk_42m56_20 rfl rfl ?_
    refine g_callSp D291 24 (hw _ w_116) (hw _ w_117) (hw _ w_61) (hw _ w_118) (by decide) ((cUCh l Z a0 hw [] t kb (StrChars.Road.wideBytes [c0, c1]) (4 : Int32) (2 : Int32) (1 : Int32) (2 : Int32) c1 fm h0 n0 Z0 OLD SA SH SL SFm rfm f4 (by decide) ⟨by decide, by decide⟩ (by decide) ⟨by decide, by decide⟩ ⟨by decide, by decide⟩ rfl rfl Hi).back D291 0 (hw _ w_118) (hw _ w_61) (by decide) (by decide)) rfl [(.ref t), (.int (1 : Int32))] rfl (lenOf pd_5 rfl) rfl (Nat.le_of_eq rfl) (by decide) (by decide) d_jdk_42m56_21 rfl ?_
    intro v292 T292 q292 D292
    subst q292
    show Go p e below _ (T292.setTop (mkF m 24 #[.val (.ref x), .val (.int (1 : Int32))] [(.int c1)]))
    exact r_N D292 hret (by simp) hlk d_jdk_42m56_24 ⟨congrArg (fun z => some (Value.int z)) (nar16 Hi), rfl, rfl⟩ (by decide) (by decide)
theorem cSCh_3_0 (l : Launch) (Z : State) (a0 : Array Value) (hw : tHW Z a0) (ws : List Jvm.Cond) (x : Addr) (zc : Int32) (fm : Value) (c0 c1 c2 : Int32) (h0 : Heap) (n0 : Nat) (Z0 : n0 ≤ h0.size) (OLD : Old Z n0 h0) (SA : tSA Z) (SH : tSH Z) (SL : tSL Z) (CS : tCS Z zc) (hzc : ¬ zc = 0) (SFm : tSF Z fm) (rfm : fm.isRef = true) (X_x : TS Z h0 x [c0, c1, c2]) :
    Con l (⟨"java/lang/String", "charAt", "(I)C"⟩ : MethodName) jdk_42_method_56_code 2 (some .char) ws ({ frames := 4, cells := 0, slots := 0, locals := 53 } : Room) Z #[(.ref x), (.int (0 : Int32))] h0 (fun v h L => v = some (.int c0) ∧ L = [] ∧ h = h0) 0 0 := by
  refine enter (plainFor_of_name pn_1) ?_
  intro p e s m below meth c s₁ hnm hret hlk D0
  rw [ef_cSCh_3_0 m x]
  obtain ⟨t, kb, cd, N2, vs, f1, f2, f3, f4, f5, f6, -⟩ := X_x
  have Hi := f6 c0 (List.mem_of_getElem? (i := 0) rfl)
  rcases f5 with ⟨rfl, rfl, rfl, fu⟩ | ⟨rfl, rfl, rfl, fe⟩
  · refine g_aloadN D0 1 d_jdk_42m56_0 rfl rfl rfl ?_
    refine g_callVp D0 4 (hw _ w_80) (hw _ w_81) (notFace_of_selects (args := #[]) (mvT D0.wm (hw _ w_83))) (hw _ w_83) (hw _ w_82) (by decide) ((cIL_0 l Z a0 hw [] x zc h0 n0 Z0 OLD CS hzc f2).back D0 0 (hw _ w_84) (hw _ w_8) (by decide) (by decide)) f1 rfl [] rfl (lenOf pd_12 rfl) rfl (Nat.le_of_eq rfl) (by decide) (by decide) d_jdk_42m56_1 rfl ?_
    intro v293 T293 q293 D293
    subst q293
    show Go p e below _ (T293.setTop (mkF m 4 #[.val (.ref x), .val (.int (0 : Int32))] [(.int (1 : Int32))]))
    refine g_ifN D293 7 d_jdk_42m56_4 (by decide) rfl ?_
    refine g_aloadN D293 8 d_jdk_42m56_7 rfl rfl rfl ?_
    refine g_getF D293 11 (hw _ w_26) Via.refl f3 d_jdk_42m56_8 rfl ?_
    intro T294 D294
    refine g_iloadN D294 12 d_jdk_42m56_11 rfl rfl ?_
    refine g_callSp D294 15 (hw _ w_85) (hw _ w_86) (hw _ w_87) (hw _ w_88) (by decide) ((cLCh l Z a0 hw [] t kb [(.int (StrChars.lo8 c0)), (.int (StrChars.lo8 c1)), (.int (StrChars.lo8 c2))] (3 : Int32) (0 : Int32) c0 fm h0 n0 Z0 OLD SFm rfm f4 ⟨by decide, by decide⟩ rfl Hi (fu c0 (List.mem_of_getElem? (i := 0) rfl))).back D294 0 (hw _ w_88) (hw _ w_87) (by decide) (by decide)) rfl [(.ref t), (.int (0 : Int32))] rfl (lenOf pd_5 rfl) rfl (Nat.le_of_eq rfl) (by decide) (by decide) d_jdk_42m56_12 rfl ?_
    intro v295 T295 q295 D295
    subst q295
    show Go p e below _ (T295.setTop (mkF m 15 #[.val (.ref x), .val (.int (0 : Int32))] [(.int c0)]))
    exact r_N D295 hret (by simp) hlk d_jdk_42m56_15 ⟨congrArg (fun z => some (Value.int z)) (nar16 Hi), rfl, rfl⟩ (by decide) (by decide)
  · refine g_aloadN D0 1 d_jdk_42m56_0 rfl rfl rfl ?_
    refine g_callVp D0 4 (hw _ w_80) (hw _ w_81) (notFace_of_selects (args := #[]) (mvT D0.wm (hw _ w_83))) (hw _ w_83) (hw _ w_82) (by decide) ((cIL_1 l Z a0 hw [] x zc h0 n0 Z0 OLD CS hzc f2).back D0 0 (hw _ w_84) (hw _ w_8) (by decide) (by decide)) f1 rfl [] rfl (lenOf pd_12 rfl) rfl (Nat.le_of_eq rfl) (by decide) (by decide) d_jdk_42m56_1 rfl ?_
    intro v296 T296 q296 D296
    subst q296
    show Go p e below _ (T296.setTop (mkF m 4 #[.val (.ref x), .val (.int (0 : Int32))] [(.int (0 : Int32))]))
    refine g_ifY D296 16 d_jdk_42m56_4 (by decide) (by decide) (by decide) ?_
    refine g_aloadN D296 17 d_jdk_42m56_16 rfl rfl rfl ?_
    refine g_getF D296 20 (hw _ w_26) Via.refl f3 d_jdk_42m56_17 rfl ?_
    intro T297 D297
    refine g_iloadN D297 21 d_jdk_42m56_20 rfl rfl ?_
    refine g_callSp D297 24 (hw _ w_116) (hw _ w_117) (hw _ w_61) (hw _ w_118) (by decide) ((cUCh l Z a0 hw [] t kb (StrChars.Road.wideBytes [c0, c1, c2]) (6 : Int32) (3 : Int32) (0 : Int32) (0 : Int32) c0 fm h0 n0 Z0 OLD SA SH SL SFm rfm f4 (by decide) ⟨by decide, by decide⟩ (by decide) ⟨by decide, by decide⟩ ⟨by decide, by decide⟩ rfl rfl Hi).back D297 0 (hw _ w_118) (hw _ w_61) (by decide) (by decide)) rfl [(.ref t), (.int (0 : Int32))] rfl (lenOf pd_5 rfl) rfl (Nat.le_of_eq rfl) (by decide) (by decide) d_jdk_42m56_21 rfl ?_
    intro v298 T298 q298 D298
    subst q298
    show Go p e below _ (T298.setTop (mkF m 24 #[.val (.ref x), .val (.int (0 : Int32))] [(.int c0)]))
    exact r_N D298 hret (by simp) hlk d_jdk_42m56_24 ⟨congrArg (fun z => some (Value.int z)) (nar16 Hi), rfl, rfl⟩ (by decide) (by decide)
theorem cSCh_3_1 (l : Launch) (Z : State) (a0 : Array Value) (hw : tHW Z a0) (ws : List Jvm.Cond) (x : Addr) (zc : Int32) (fm : Value) (c0 c1 c2 : Int32) (h0 : Heap) (n0 : Nat) (Z0 : n0 ≤ h0.size) (OLD : Old Z n0 h0) (SA : tSA Z) (SH : tSH Z) (SL : tSL Z) (CS : tCS Z zc) (hzc : ¬ zc = 0) (SFm : tSF Z fm) (rfm : fm.isRef = true) (X_x : TS Z h0 x [c0, c1, c2]) :
    Con l (⟨"java/lang/String", "charAt", "(I)C"⟩ : MethodName) jdk_42_method_56_code 2 (some .char) ws ({ frames := 4, cells := 0, slots := 0, locals := 53 } : Room) Z #[(.ref x), (.int (1 : Int32))] h0 (fun v h L => v = some (.int c1) ∧ L = [] ∧ h = h0) 0 0 := by
  refine enter (plainFor_of_name pn_1) ?_
  intro p e s m below meth c s₁ hnm hret hlk D0
  rw [ef_cSCh_3_1 m x]
  obtain ⟨t, kb, cd, N2, vs, f1, f2, f3, f4, f5, f6, -⟩ := X_x
  have Hi := f6 c1 (List.mem_of_getElem? (i := 1) rfl)
  rcases f5 with ⟨rfl, rfl, rfl, fu⟩ | ⟨rfl, rfl, rfl, fe⟩
  · refine g_aloadN D0 1 d_jdk_42m56_0 rfl rfl rfl ?_
    refine g_callVp D0 4 (hw _ w_80) (hw _ w_81) (notFace_of_selects (args := #[]) (mvT D0.wm (hw _ w_83))) (hw _ w_83) (hw _ w_82) (by decide) ((cIL_0 l Z a0 hw [] x zc h0 n0 Z0 OLD CS hzc f2).back D0 0 (hw _ w_84) (hw _ w_8) (by decide) (by decide)) f1 rfl [] rfl (lenOf pd_12 rfl) rfl (Nat.le_of_eq rfl) (by decide) (by decide) d_jdk_42m56_1 rfl ?_
    intro v299 T299 q299 D299
    subst q299
    show Go p e below _ (T299.setTop (mkF m 4 #[.val (.ref x), .val (.int (1 : Int32))] [(.int (1 : Int32))]))
    refine g_ifN D299 7 d_jdk_42m56_4 (by decide) rfl ?_
    refine g_aloadN D299 8 d_jdk_42m56_7 rfl rfl rfl ?_
    refine g_getF D299 11 (hw _ w_26) Via.refl f3 d_jdk_42m56_8 rfl ?_
    intro T300 D300
    refine g_iloadN D300 12 d_jdk_42m56_11 rfl rfl ?_
    refine g_callSp D300 15 (hw _ w_85) (hw _ w_86) (hw _ w_87) (hw _ w_88) (by decide) ((cLCh l Z a0 hw [] t kb [(.int (StrChars.lo8 c0)), (.int (StrChars.lo8 c1)), (.int (StrChars.lo8 c2))] (3 : Int32) (1 : Int32) c1 fm h0 n0 Z0 OLD SFm rfm f4 ⟨by decide, by decide⟩ rfl Hi (fu c1 (List.mem_of_getElem? (i := 1) rfl))).back D300 0 (hw _ w_88) (hw _ w_87) (by decide) (by decide)) rfl [(.ref t), (.int (1 : Int32))] rfl (lenOf pd_5 rfl) rfl (Nat.le_of_eq rfl) (by decide) (by decide) d_jdk_42m56_12 rfl ?_
    intro v301 T301 q301 D301
    subst q301
    show Go p e below _ (T301.setTop (mkF m 15 #[.val (.ref x), .val (.int (1 : Int32))] [(.int c1)]))
    exact r_N D301 hret (by simp) hlk d_jdk_42m56_15 ⟨congrArg (fun z => some (Value.int z)) (nar16 Hi), rfl, rfl⟩ (by decide) (by decide)
  · refine g_aloadN D0 1 d_jdk_42m56_0 rfl rfl rfl ?_
    refine g_callVp D0 4 (hw _ w_80) (hw _ w_81) (notFace_of_selects (args := #[]) (mvT D0.wm (hw _ w_83))) (hw _ w_83) (hw _ w_82) (by decide) ((cIL_1 l Z a0 hw [] x zc h0 n0 Z0 OLD CS hzc f2).back D0 0 (hw _ w_84) (hw _ w_8) (by decide) (by decide)) f1 rfl [] rfl (lenOf pd_12 rfl) rfl (Nat.le_of_eq rfl) (by decide) (by decide) d_jdk_42m56_1 rfl ?_
    intro v302 T302 q302 D302
    subst q302
    show Go p e below _ (T302.setTop (mkF m 4 #[.val (.ref x), .val (.int (1 : Int32))] [(.int (0 : Int32))]))
    refine g_ifY D302 16 d_jdk_42m56_4 (by decide) (by decide) (by decide) ?_
    refine g_aloadN D302 17 d_jdk_42m56_16 rfl rfl rfl ?_
    refine g_getF D302 20 (hw _ w_26) Via.refl f3 d_jdk_42m56_17 rfl ?_
    intro T303 D303
    refine g_iloadN D303 21 d_jdk_42m56_20 rfl rfl ?_
    refine g_callSp D303 24 (hw _ w_116) (hw _ w_117) (hw _ w_61) (hw _ w_118) (by decide) ((cUCh l Z a0 hw [] t kb (StrChars.Road.wideBytes [c0, c1, c2]) (6 : Int32) (3 : Int32) (1 : Int32) (2 : Int32) c1 fm h0 n0 Z0 OLD SA SH SL SFm rfm f4 (by decide) ⟨by decide, by decide⟩ (by decide) ⟨by decide, by decide⟩ ⟨by decide, by decide⟩ rfl rfl Hi).back D303 0 (hw _ w_118) (hw _ w_61) (by decide) (by decide)) rfl [(.ref t), (.int (1 : Int32))] rfl (lenOf pd_5 rfl) rfl (Nat.le_of_eq rfl) (by decide) (by decide) d_jdk_42m56_21 rfl ?_
    intro v304 T304 q304 D304
    subst q304
    show Go p e below _ (T304.setTop (mkF m 24 #[.val (.ref x), .val (.int (1 : Int32))] [(.int c1)]))
    exact r_N D304 hret (by simp) hlk d_jdk_42m56_24 ⟨congrArg (fun z => some (Value.int z)) (nar16 Hi), rfl, rfl⟩ (by decide) (by decide)
theorem cSCh_3_2 (l : Launch) (Z : State) (a0 : Array Value) (hw : tHW Z a0) (ws : List Jvm.Cond) (x : Addr) (zc : Int32) (fm : Value) (c0 c1 c2 : Int32) (h0 : Heap) (n0 : Nat) (Z0 : n0 ≤ h0.size) (OLD : Old Z n0 h0) (SA : tSA Z) (SH : tSH Z) (SL : tSL Z) (CS : tCS Z zc) (hzc : ¬ zc = 0) (SFm : tSF Z fm) (rfm : fm.isRef = true) (X_x : TS Z h0 x [c0, c1, c2]) :
    Con l (⟨"java/lang/String", "charAt", "(I)C"⟩ : MethodName) jdk_42_method_56_code 2 (some .char) ws ({ frames := 4, cells := 0, slots := 0, locals := 53 } : Room) Z #[(.ref x), (.int (2 : Int32))] h0 (fun v h L => v = some (.int c2) ∧ L = [] ∧ h = h0) 0 0 := by
  refine enter (plainFor_of_name pn_1) ?_
  intro p e s m below meth c s₁ hnm hret hlk D0
  rw [ef_cSCh_3_2 m x]
  obtain ⟨t, kb, cd, N2, vs, f1, f2, f3, f4, f5, f6, -⟩ := X_x
  have Hi := f6 c2 (List.mem_of_getElem? (i := 2) rfl)
  rcases f5 with ⟨rfl, rfl, rfl, fu⟩ | ⟨rfl, rfl, rfl, fe⟩
  · refine g_aloadN D0 1 d_jdk_42m56_0 rfl rfl rfl ?_
    refine g_callVp D0 4 (hw _ w_80) (hw _ w_81) (notFace_of_selects (args := #[]) (mvT D0.wm (hw _ w_83))) (hw _ w_83) (hw _ w_82) (by decide) ((cIL_0 l Z a0 hw [] x zc h0 n0 Z0 OLD CS hzc f2).back D0 0 (hw _ w_84) (hw _ w_8) (by decide) (by decide)) f1 rfl [] rfl (lenOf pd_12 rfl) rfl (Nat.le_of_eq rfl) (by decide) (by decide) d_jdk_42m56_1 rfl ?_
    intro v305 T305 q305 D305
    subst q305
    show Go p e below _ (T305.setTop (mkF m 4 #[.val (.ref x), .val (.int (2 : Int32))] [(.int (1 : Int32))]))
    refine g_ifN D305 7 d_jdk_42m56_4 (by decide) rfl ?_
    refine g_aloadN D305 8 d_jdk_42m56_7 rfl rfl rfl ?_
    refine g_getF D305 11 (hw _ w_26) Via.refl f3 d_jdk_42m56_8 rfl ?_
    intro T306 D306
    refine g_iloadN D306 12 d_jdk_42m56_11 rfl rfl ?_
    refine g_callSp D306 15 (hw _ w_85) (hw _ w_86) (hw _ w_87) (hw _ w_88) (by decide) ((cLCh l Z a0 hw [] t kb [(.int (StrChars.lo8 c0)), (.int (StrChars.lo8 c1)), (.int (StrChars.lo8 c2))] (3 : Int32) (2 : Int32) c2 fm h0 n0 Z0 OLD SFm rfm f4 ⟨by decide, by decide⟩ rfl Hi (fu c2 (List.mem_of_getElem? (i := 2) rfl))).back D306 0 (hw _ w_88) (hw _ w_87) (by decide) (by decide)) rfl [(.ref t), (.int (2 : Int32))] rfl (lenOf pd_5 rfl) rfl (Nat.le_of_eq rfl) (by decide) (by decide) d_jdk_42m56_12 rfl ?_
    intro v307 T307 q307 D307
    subst q307
    show Go p e below _ (T307.setTop (mkF m 15 #[.val (.ref x), .val (.int (2 : Int32))] [(.int c2)]))
    exact r_N D307 hret (by simp) hlk d_jdk_42m56_15 ⟨congrArg (fun z => some (Value.int z)) (nar16 Hi), rfl, rfl⟩ (by decide) (by decide)
  · refine g_aloadN D0 1 d_jdk_42m56_0 rfl rfl rfl ?_
    refine g_callVp D0 4 (hw _ w_80) (hw _ w_81) (notFace_of_selects (args := #[]) (mvT D0.wm (hw _ w_83))) (hw _ w_83) (hw _ w_82) (by decide) ((cIL_1 l Z a0 hw [] x zc h0 n0 Z0 OLD CS hzc f2).back D0 0 (hw _ w_84) (hw _ w_8) (by decide) (by decide)) f1 rfl [] rfl (lenOf pd_12 rfl) rfl (Nat.le_of_eq rfl) (by decide) (by decide) d_jdk_42m56_1 rfl ?_
    intro v308 T308 q308 D308
    subst q308
    show Go p e below _ (T308.setTop (mkF m 4 #[.val (.ref x), .val (.int (2 : Int32))] [(.int (0 : Int32))]))
    refine g_ifY D308 16 d_jdk_42m56_4 (by decide) (by decide) (by decide) ?_
    refine g_aloadN D308 17 d_jdk_42m56_16 rfl rfl rfl ?_
    refine g_getF D308 20 (hw _ w_26) Via.refl f3 d_jdk_42m56_17 rfl ?_
    intro T309 D309
    refine g_iloadN D309 21 d_jdk_42m56_20 rfl rfl ?_
    refine g_callSp D309 24 (hw _ w_116) (hw _ w_117) (hw _ w_61) (hw _ w_118) (by decide) ((cUCh l Z a0 hw [] t kb (StrChars.Road.wideBytes [c0, c1, c2]) (6 : Int32) (3 : Int32) (2 : Int32) (4 : Int32) c2 fm h0 n0 Z0 OLD SA SH SL SFm rfm f4 (by decide) ⟨by decide, by decide⟩ (by decide) ⟨by decide, by decide⟩ ⟨by decide, by decide⟩ rfl rfl Hi).back D309 0 (hw _ w_118) (hw _ w_61) (by decide) (by decide)) rfl [(.ref t), (.int (2 : Int32))] rfl (lenOf pd_5 rfl) rfl (Nat.le_of_eq rfl) (by decide) (by decide) d_jdk_42m56_21 rfl ?_
    intro v310 T310 q310 D310
    subst q310
    show Go p e below _ (T310.setTop (mkF m 24 #[.val (.ref x), .val (.int (2 : Int32))] [(.int c2)]))
    exact r_N D310 hret (by simp) hlk d_jdk_42m56_24 ⟨congrArg (fun z => some (Value.int z)) (nar16 Hi), rfl, rfl⟩ (by decide) (by decide)
theorem cSCh_4_0 (l : Launch) (Z : State) (a0 : Array Value) (hw : tHW Z a0) (ws : List Jvm.Cond) (x : Addr) (zc : Int32) (fm : Value) (c0 c1 c2 c3 : Int32) (h0 : Heap) (n0 : Nat) (Z0 : n0 ≤ h0.size) (OLD : Old Z n0 h0) (SA : tSA Z) (SH : tSH Z) (SL : tSL Z) (CS : tCS Z zc) (hzc : ¬ zc = 0) (SFm : tSF Z fm) (rfm : fm.isRef = true) (X_x : TS Z h0 x [c0, c1, c2, c3]) :
    Con l (⟨"java/lang/String", "charAt", "(I)C"⟩ : MethodName) jdk_42_method_56_code 2 (some .char) ws ({ frames := 4, cells := 0, slots := 0, locals := 53 } : Room) Z #[(.ref x), (.int (0 : Int32))] h0 (fun v h L => v = some (.int c0) ∧ L = [] ∧ h = h0) 0 0 := by
  refine enter (plainFor_of_name pn_1) ?_
  intro p e s m below meth c s₁ hnm hret hlk D0
  rw [ef_cSCh_4_0 m x]
  obtain ⟨t, kb, cd, N2, vs, f1, f2, f3, f4, f5, f6, -⟩ := X_x
  have Hi := f6 c0 (List.mem_of_getElem? (i := 0) rfl)
  rcases f5 with ⟨rfl, rfl, rfl, fu⟩ | ⟨rfl, rfl, rfl, fe⟩
  · refine g_aloadN D0 1 d_jdk_42m56_0 rfl rfl rfl ?_
    refine g_callVp D0 4 (hw _ w_80) (hw _ w_81) (notFace_of_selects (args := #[]) (mvT D0.wm (hw _ w_83))) (hw _ w_83) (hw _ w_82) (by decide) ((cIL_0 l Z a0 hw [] x zc h0 n0 Z0 OLD CS hzc f2).back D0 0 (hw _ w_84) (hw _ w_8) (by decide) (by decide)) f1 rfl [] rfl (lenOf pd_12 rfl) rfl (Nat.le_of_eq rfl) (by decide) (by decide) d_jdk_42m56_1 rfl ?_
    intro v311 T311 q311 D311
    subst q311
    show Go p e below _ (T311.setTop (mkF m 4 #[.val (.ref x), .val (.int (0 : Int32))] [(.int (1 : Int32))]))
    refine g_ifN D311 7 d_jdk_42m56_4 (by decide) rfl ?_
    refine g_aloadN D311 8 d_jdk_42m56_7 rfl rfl rfl ?_
    refine g_getF D311 11 (hw _ w_26) Via.refl f3 d_jdk_42m56_8 rfl ?_
    intro T312 D312
    refine g_iloadN D312 12 d_jdk_42m56_11 rfl rfl ?_
    refine g_callSp D312 15 (hw _ w_85) (hw _ w_86) (hw _ w_87) (hw _ w_88) (by decide) ((cLCh l Z a0 hw [] t kb [(.int (StrChars.lo8 c0)), (.int (StrChars.lo8 c1)), (.int (StrChars.lo8 c2)), (.int (StrChars.lo8 c3))] (4 : Int32) (0 : Int32) c0 fm h0 n0 Z0 OLD SFm rfm f4 ⟨by decide, by decide⟩ rfl Hi (fu c0 (List.mem_of_getElem? (i := 0) rfl))).back D312 0 (hw _ w_88) (hw _ w_87) (by decide) (by decide)) rfl [(.ref t), (.int (0 : Int32))] rfl (lenOf pd_5 rfl) rfl (Nat.le_of_eq rfl) (by decide) (by decide) d_jdk_42m56_12 rfl ?_
    intro v313 T313 q313 D313
    subst q313
    show Go p e below _ (T313.setTop (mkF m 15 #[.val (.ref x), .val (.int (0 : Int32))] [(.int c0)]))
    exact r_N D313 hret (by simp) hlk d_jdk_42m56_15 ⟨congrArg (fun z => some (Value.int z)) (nar16 Hi), rfl, rfl⟩ (by decide) (by decide)
  · refine g_aloadN D0 1 d_jdk_42m56_0 rfl rfl rfl ?_
    refine g_callVp D0 4 (hw _ w_80) (hw _ w_81) (notFace_of_selects (args := #[]) (mvT D0.wm (hw _ w_83))) (hw _ w_83) (hw _ w_82) (by decide) ((cIL_1 l Z a0 hw [] x zc h0 n0 Z0 OLD CS hzc f2).back D0 0 (hw _ w_84) (hw _ w_8) (by decide) (by decide)) f1 rfl [] rfl (lenOf pd_12 rfl) rfl (Nat.le_of_eq rfl) (by decide) (by decide) d_jdk_42m56_1 rfl ?_
    intro v314 T314 q314 D314
    subst q314
    show Go p e below _ (T314.setTop (mkF m 4 #[.val (.ref x), .val (.int (0 : Int32))] [(.int (0 : Int32))]))
    refine g_ifY D314 16 d_jdk_42m56_4 (by decide) (by decide) (by decide) ?_
    refine g_aloadN D314 17 d_jdk_42m56_16 rfl rfl rfl ?_
    refine g_getF D314 20 (hw _ w_26) Via.refl f3 d_jdk_42m56_17 rfl ?_
    intro T315 D315
    refine g_iloadN D315 21 d_jdk_42m56_20 rfl rfl ?_
    refine g_callSp D315 24 (hw _ w_116) (hw _ w_117) (hw _ w_61) (hw _ w_118) (by decide) ((cUCh l Z a0 hw [] t kb (StrChars.Road.wideBytes [c0, c1, c2, c3]) (8 : Int32) (4 : Int32) (0 : Int32) (0 : Int32) c0 fm h0 n0 Z0 OLD SA SH SL SFm rfm f4 (by decide) ⟨by decide, by decide⟩ (by decide) ⟨by decide, by decide⟩ ⟨by decide, by decide⟩ rfl rfl Hi).back D315 0 (hw _ w_118) (hw _ w_61) (by decide) (by decide)) rfl [(.ref t), (.int (0 : Int32))] rfl (lenOf pd_5 rfl) rfl (Nat.le_of_eq rfl) (by decide) (by decide) d_jdk_42m56_21 rfl ?_
    intro v316 T316 q316 D316
    subst q316
    show Go p e below _ (T316.setTop (mkF m 24 #[.val (.ref x), .val (.int (0 : Int32))] [(.int c0)]))
    exact r_N D316 hret (by simp) hlk d_jdk_42m56_24 ⟨congrArg (fun z => some (Value.int z)) (nar16 Hi), rfl, rfl⟩ (by decide) (by decide)
theorem cSCh_4_1 (l : Launch) (Z : State) (a0 : Array Value) (hw : tHW Z a0) (ws : List Jvm.Cond) (x : Addr) (zc : Int32) (fm : Value) (c0 c1 c2 c3 : Int32) (h0 : Heap) (n0 : Nat) (Z0 : n0 ≤ h0.size) (OLD : Old Z n0 h0) (SA : tSA Z) (SH : tSH Z) (SL : tSL Z) (CS : tCS Z zc) (hzc : ¬ zc = 0) (SFm : tSF Z fm) (rfm : fm.isRef = true) (X_x : TS Z h0 x [c0, c1, c2, c3]) :
    Con l (⟨"java/lang/String", "charAt", "(I)C"⟩ : MethodName) jdk_42_method_56_code 2 (some .char) ws ({ frames := 4, cells := 0, slots := 0, locals := 53 } : Room) Z #[(.ref x), (.int (1 : Int32))] h0 (fun v h L => v = some (.int c1) ∧ L = [] ∧ h = h0) 0 0 := by
  refine enter (plainFor_of_name pn_1) ?_
  intro p e s m below meth c s₁ hnm hret hlk D0
  rw [ef_cSCh_4_1 m x]
  obtain ⟨t, kb, cd, N2, vs, f1, f2, f3, f4, f5, f6, -⟩ := X_x
  have Hi := f6 c1 (List.mem_of_getElem? (i := 1) rfl)
  rcases f5 with ⟨rfl, rfl, rfl, fu⟩ | ⟨rfl, rfl, rfl, fe⟩
  · refine g_aloadN D0 1 d_jdk_42m56_0 rfl rfl rfl ?_
    refine g_callVp D0 4 (hw _ w_80) (hw _ w_81) (notFace_of_selects (args := #[]) (mvT D0.wm (hw _ w_83))) (hw _ w_83) (hw _ w_82) (by decide) ((cIL_0 l Z a0 hw [] x zc h0 n0 Z0 OLD CS hzc f2).back D0 0 (hw _ w_84) (hw _ w_8) (by decide) (by decide)) f1 rfl [] rfl (lenOf pd_12 rfl) rfl (Nat.le_of_eq rfl) (by decide) (by decide) d_jdk_42m56_1 rfl ?_
    intro v317 T317 q317 D317
    subst q317
    show Go p e below _ (T317.setTop (mkF m 4 #[.val (.ref x), .val (.int (1 : Int32))] [(.int (1 : Int32))]))
    refine g_ifN D317 7 d_jdk_42m56_4 (by decide) rfl ?_
    refine g_aloadN D317 8 d_jdk_42m56_7 rfl rfl rfl ?_
    refine g_getF D317 11 (hw _ w_26) Via.refl f3 d_jdk_42m56_8 rfl ?_
    intro T318 D318
    refine g_iloadN D318 12 d_jdk_42m56_11 rfl rfl ?_
    refine g_callSp D318 15 (hw _ w_85) (hw _ w_86) (hw _ w_87) (hw _ w_88) (by decide) ((cLCh l Z a0 hw [] t kb [(.int (StrChars.lo8 c0)), (.int (StrChars.lo8 c1)), (.int (StrChars.lo8 c2)), (.int (StrChars.lo8 c3))] (4 : Int32) (1 : Int32) c1 fm h0 n0 Z0 OLD SFm rfm f4 ⟨by decide, by decide⟩ rfl Hi (fu c1 (List.mem_of_getElem? (i := 1) rfl))).back D318 0 (hw _ w_88) (hw _ w_87) (by decide) (by decide)) rfl [(.ref t), (.int (1 : Int32))] rfl (lenOf pd_5 rfl) rfl (Nat.le_of_eq rfl) (by decide) (by decide) d_jdk_42m56_12 rfl ?_
    intro v319 T319 q319 D319
    subst q319
    show Go p e below _ (T319.setTop (mkF m 15 #[.val (.ref x), .val (.int (1 : Int32))] [(.int c1)]))
    exact r_N D319 hret (by simp) hlk d_jdk_42m56_15 ⟨congrArg (fun z => some (Value.int z)) (nar16 Hi), rfl, rfl⟩ (by decide) (by decide)
  · refine g_aloadN D0 1 d_jdk_42m56_0 rfl rfl rfl ?_
    refine g_callVp D0 4 (hw _ w_80) (hw _ w_81) (notFace_of_selects (args := #[]) (mvT D0.wm (hw _ w_83))) (hw _ w_83) (hw _ w_82) (by decide) ((cIL_1 l Z a0 hw [] x zc h0 n0 Z0 OLD CS hzc f2).back D0 0 (hw _ w_84) (hw _ w_8) (by decide) (by decide)) f1 rfl [] rfl (lenOf pd_12 rfl) rfl (Nat.le_of_eq rfl) (by decide) (by decide) d_jdk_42m56_1 rfl ?_
    intro v320 T320 q320 D320
    subst q320
    show Go p e below _ (T320.setTop (mkF m 4 #[.val (.ref x), .val (.int (1 : Int32))] [(.int (0 : Int32))]))
    refine g_ifY D320 16 d_jdk_42m56_4 (by decide) (by decide) (by decide) ?_
    refine g_aloadN D320 17 d_jdk_42m56_16 rfl rfl rfl ?_
    refine g_getF D320 20 (hw _ w_26) Via.refl f3 d_jdk_42m56_17 rfl ?_
    intro T321 D321
    refine g_iloadN D321 21 d_jdk_42m56_20 rfl rfl ?_
    refine g_callSp D321 24 (hw _ w_116) (hw _ w_117) (hw _ w_61) (hw _ w_118) (by decide) ((cUCh l Z a0 hw [] t kb (StrChars.Road.wideBytes [c0, c1, c2, c3]) (8 : Int32) (4 : Int32) (1 : Int32) (2 : Int32) c1 fm h0 n0 Z0 OLD SA SH SL SFm rfm f4 (by decide) ⟨by decide, by decide⟩ (by decide) ⟨by decide, by decide⟩ ⟨by decide, by decide⟩ rfl rfl Hi).back D321 0 (hw _ w_118) (hw _ w_61) (by decide) (by decide)) rfl [(.ref t), (.int (1 : Int32))] rfl (lenOf pd_5 rfl) rfl (Nat.le_of_eq rfl) (by decide) (by decide) d_jdk_42m56_21 rfl ?_
    intro v322 T322 q322 D322
    subst q322
    show Go p e below _ (T322.setTop (mkF m 24 #[.val (.ref x), .val (.int (1 : Int32))] [(.int c1)]))
    exact r_N D322 hret (by simp) hlk d_jdk_42m56_24 ⟨congrArg (fun z => some (Value.int z)) (nar16 Hi), rfl, rfl⟩ (by decide) (by decide)
theorem cSCh_4_2 (l : Launch) (Z : State) (a0 : Array Value) (hw : tHW Z a0) (ws : List Jvm.Cond) (x : Addr) (zc : Int32) (fm : Value) (c0 c1 c2 c3 : Int32) (h0 : Heap) (n0 : Nat) (Z0 : n0 ≤ h0.size) (OLD : Old Z n0 h0) (SA : tSA Z) (SH : tSH Z) (SL : tSL Z) (CS : tCS Z zc) (hzc : ¬ zc = 0) (SFm : tSF Z fm) (rfm : fm.isRef = true) (X_x : TS Z h0 x [c0, c1, c2, c3]) :
    Con l (⟨"java/lang/String", "charAt", "(I)C"⟩ : MethodName) jdk_42_method_56_code 2 (some .char) ws ({ frames := 4, cells := 0, slots := 0, locals := 53 } : Room) Z #[(.ref x), (.int (2 : Int32))] h0 (fun v h L => v = some (.int c2) ∧ L = [] ∧ h = h0) 0 0 := by
  refine enter (plainFor_of_name pn_1) ?_
  intro p e s m below meth c s₁ hnm hret hlk D0
  rw [ef_cSCh_4_2 m x]
  obtain ⟨t, kb, cd, N2, vs, f1, f2, f3, f4, f5, f6, -⟩ := X_x
  have Hi := f6 c2 (List.mem_of_getElem? (i := 2) rfl)
  rcases f5 with ⟨rfl, rfl, rfl, fu⟩ | ⟨rfl, rfl, rfl, fe⟩
  · refine g_aloadN D0 1 d_jdk_42m56_0 rfl rfl rfl ?_
    refine g_callVp D0 4 (hw _ w_80) (hw _ w_81) (notFace_of_selects (args := #[]) (mvT D0.wm (hw _ w_83))) (hw _ w_83) (hw _ w_82) (by decide) ((cIL_0 l Z a0 hw [] x zc h0 n0 Z0 OLD CS hzc f2).back D0 0 (hw _ w_84) (hw _ w_8) (by decide) (by decide)) f1 rfl [] rfl (lenOf pd_12 rfl) rfl (Nat.le_of_eq rfl) (by decide) (by decide) d_jdk_42m56_1 rfl ?_
    intro v323 T323 q323 D323
    subst q323
    show Go p e below _ (T323.setTop (mkF m 4 #[.val (.ref x), .val (.int (2 : Int32))] [(.int (1 : Int32))]))
    refine g_ifN D323 7 d_jdk_42m56_4 (by decide) rfl ?_
    refine g_aloadN D323 8 d_jdk_42m56_7 rfl rfl rfl ?_
    refine g_getF D323 11 (hw _ w_26) Via.refl f3 d_jdk_42m56_8 rfl ?_
    intro T324 D324
    refine g_iloadN D324 12 d_jdk_42m56_11 rfl rfl ?_
    refine g_callSp D324 15 (hw _ w_85) (hw _ w_86) (hw _ w_87) (hw _ w_88) (by decide) ((cLCh l Z a0 hw [] t kb [(.int (StrChars.lo8 c0)), (.int (StrChars.lo8 c1)), (.int (StrChars.lo8 c2)), (.int (StrChars.lo8 c3))] (4 : Int32) (2 : Int32) c2 fm h0 n0 Z0 OLD SFm rfm f4 ⟨by decide, by decide⟩ rfl Hi (fu c2 (List.mem_of_getElem? (i := 2) rfl))).back D324 0 (hw _ w_88) (hw _ w_87) (by decide) (by decide)) rfl [(.ref t), (.int (2 : Int32))] rfl (lenOf pd_5 rfl) rfl (Nat.le_of_eq rfl) (by decide) (by decide) d_jdk_42m56_12 rfl ?_
    intro v325 T325 q325 D325
    subst q325
    show Go p e below _ (T325.setTop (mkF m 15 #[.val (.ref x), .val (.int (2 : Int32))] [(.int c2)]))
    exact r_N D325 hret (by simp) hlk d_jdk_42m56_15 ⟨congrArg (fun z => some (Value.int z)) (nar16 Hi), rfl, rfl⟩ (by decide) (by decide)
  · refine g_aloadN D0 1 d_jdk_42m56_0 rfl rfl rfl ?_
    refine g_callVp D0 4 (hw _ w_80) (hw _ w_81) (notFace_of_selects (args := #[]) (mvT D0.wm (hw _ w_83))) (hw _ w_83) (hw _ w_82) (by decide) ((cIL_1 l Z a0 hw [] x zc h0 n0 Z0 OLD CS hzc f2).back D0 0 (hw _ w_84) (hw _ w_8) (by decide) (by decide)) f1 rfl [] rfl (lenOf pd_12 rfl) rfl (Nat.le_of_eq rfl) (by decide) (by decide) d_jdk_42m56_1 rfl ?_
    intro v326 T326 q326 D326
    subst q326
    show Go p e below _ (T326.setTop (mkF m 4 #[.val (.ref x), .val (.int (2 : Int32))] [(.int (0 : Int32))]))
    refine g_ifY D326 16 d_jdk_42m56_4 (by decide) (by decide) (by decide) ?_
    refine g_aloadN D326 17 d_jdk_42m56_16 rfl rfl rfl ?_
    refine g_getF D326 20 (hw _ w_26) Via.refl f3 d_jdk_42m56_17 rfl ?_
    intro T327 D327
    refine g_iloadN D327 21 d_jdk_42m56_20 rfl rfl ?_
    refine g_callSp D327 24 (hw _ w_116) (hw _ w_117) (hw _ w_61) (hw _ w_118) (by decide) ((cUCh l Z a0 hw [] t kb (StrChars.Road.wideBytes [c0, c1, c2, c3]) (8 : Int32) (4 : Int32) (2 : Int32) (4 : Int32) c2 fm h0 n0 Z0 OLD SA SH SL SFm rfm f4 (by decide) ⟨by decide, by decide⟩ (by decide) ⟨by decide, by decide⟩ ⟨by decide, by decide⟩ rfl rfl Hi).back D327 0 (hw _ w_118) (hw _ w_61) (by decide) (by decide)) rfl [(.ref t), (.int (2 : Int32))] rfl (lenOf pd_5 rfl) rfl (Nat.le_of_eq rfl) (by decide) (by decide) d_jdk_42m56_21 rfl ?_
    intro v328 T328 q328 D328
    subst q328
    show Go p e below _ (T328.setTop (mkF m 24 #[.val (.ref x), .val (.int (2 : Int32))] [(.int c2)]))
    exact r_N D328 hret (by simp) hlk d_jdk_42m56_24 ⟨congrArg (fun z => some (Value.int z)) (nar16 Hi), rfl, rfl⟩ (by decide) (by decide)
theorem cSCh_4_3 (l : Launch) (Z : State) (a0 : Array Value) (hw : tHW Z a0) (ws : List Jvm.Cond) (x : Addr) (zc : Int32) (fm : Value) (c0 c1 c2 c3 : Int32) (h0 : Heap) (n0 : Nat) (Z0 : n0 ≤ h0.size) (OLD : Old Z n0 h0) (SA : tSA Z) (SH : tSH Z) (SL : tSL Z) (CS : tCS Z zc) (hzc : ¬ zc = 0) (SFm : tSF Z fm) (rfm : fm.isRef = true) (X_x : TS Z h0 x [c0, c1, c2, c3]) :
    Con l (⟨"java/lang/String", "charAt", "(I)C"⟩ : MethodName) jdk_42_method_56_code 2 (some .char) ws ({ frames := 4, cells := 0, slots := 0, locals := 53 } : Room) Z #[(.ref x), (.int (3 : Int32))] h0 (fun v h L => v = some (.int c3) ∧ L = [] ∧ h = h0) 0 0 := by
  refine enter (plainFor_of_name pn_1) ?_
  intro p e s m below meth c s₁ hnm hret hlk D0
  rw [ef_cSCh_4_3 m x]
  obtain ⟨t, kb, cd, N2, vs, f1, f2, f3, f4, f5, f6, -⟩ := X_x
  have Hi := f6 c3 (List.mem_of_getElem? (i := 3) rfl)
  rcases f5 with ⟨rfl, rfl, rfl, fu⟩ | ⟨rfl, rfl, rfl, fe⟩
  · refine g_aloadN D0 1 d_jdk_42m56_0 rfl rfl rfl ?_
    refine g_callVp D0 4 (hw _ w_80) (hw _ w_81) (notFace_of_selects (args := #[]) (mvT D0.wm (hw _ w_83))) (hw _ w_83) (hw _ w_82) (by decide) ((cIL_0 l Z a0 hw [] x zc h0 n0 Z0 OLD CS hzc f2).back D0 0 (hw _ w_84) (hw _ w_8) (by decide) (by decide)) f1 rfl [] rfl (lenOf pd_12 rfl) rfl (Nat.le_of_eq rfl) (by decide) (by decide) d_jdk_42m56_1 rfl ?_
    intro v329 T329 q329 D329
    subst q329
    show Go p e below _ (T329.setTop (mkF m 4 #[.val (.ref x), .val (.int (3 : Int32))] [(.int (1 : Int32))]))
    refine g_ifN D329 7 d_jdk_42m56_4 (by decide) rfl ?_
    refine g_aloadN D329 8 d_jdk_42m56_7 rfl rfl rfl ?_
    refine g_getF D329 11 (hw _ w_26) Via.refl f3 d_jdk_42m56_8 rfl ?_
    intro T330 D330
    refine g_iloadN D330 12 d_jdk_42m56_11 rfl rfl ?_
    refine g_callSp D330 15 (hw _ w_85) (hw _ w_86) (hw _ w_87) (hw _ w_88) (by decide) ((cLCh l Z a0 hw [] t kb [(.int (StrChars.lo8 c0)), (.int (StrChars.lo8 c1)), (.int (StrChars.lo8 c2)), (.int (StrChars.lo8 c3))] (4 : Int32) (3 : Int32) c3 fm h0 n0 Z0 OLD SFm rfm f4 ⟨by decide, by decide⟩ rfl Hi (fu c3 (List.mem_of_getElem? (i := 3) rfl))).back D330 0 (hw _ w_88) (hw _ w_87) (by decide) (by decide)) rfl [(.ref t), (.int (3 : Int32))] rfl (lenOf pd_5 rfl) rfl (Nat.le_of_eq rfl) (by decide) (by decide) d_jdk_42m56_12 rfl ?_
    intro v331 T331 q331 D331
    subst q331
    show Go p e below _ (T331.setTop (mkF m 15 #[.val (.ref x), .val (.int (3 : Int32))] [(.int c3)]))
    exact r_N D331 hret (by simp) hlk d_jdk_42m56_15 ⟨congrArg (fun z => some (Value.int z)) (nar16 Hi), rfl, rfl⟩ (by decide) (by decide)
  · refine g_aloadN D0 1 d_jdk_42m56_0 rfl rfl rfl ?_
    refine g_callVp D0 4 (hw _ w_80) (hw _ w_81) (notFace_of_selects (args := #[]) (mvT D0.wm (hw _ w_83))) (hw _ w_83) (hw _ w_82) (by decide) ((cIL_1 l Z a0 hw [] x zc h0 n0 Z0 OLD CS hzc f2).back D0 0 (hw _ w_84) (hw _ w_8) (by decide) (by decide)) f1 rfl [] rfl (lenOf pd_12 rfl) rfl (Nat.le_of_eq rfl) (by decide) (by decide) d_jdk_42m56_1 rfl ?_
    intro v332 T332 q332 D332
    subst q332
    show Go p e below _ (T332.setTop (mkF m 4 #[.val (.ref x), .val (.int (3 : Int32))] [(.int (0 : Int32))]))
    refine g_ifY D332 16 d_jdk_42m56_4 (by decide) (by decide) (by decide) ?_
    refine g_aloadN D332 17 d_jdk_42m56_16 rfl rfl rfl ?_
    refine g_getF D332 20 (hw _ w_26) Via.refl f3 d_jdk_42m56_17 rfl ?_
    intro T333 D333
    refine g_iloadN D333 21 d_jdk_42m56_20 rfl rfl ?_
    refine g_callSp D333 24 (hw _ w_116) (hw _ w_117) (hw _ w_61) (hw _ w_118) (by decide) ((cUCh l Z a0 hw [] t kb (StrChars.Road.wideBytes [c0, c1, c2, c3]) (8 : Int32) (4 : Int32) (3 : Int32) (6 : Int32) c3 fm h0 n0 Z0 OLD SA SH SL SFm rfm f4 (by decide) ⟨by decide, by decide⟩ (by decide) ⟨by decide, by decide⟩ ⟨by decide, by decide⟩ rfl rfl Hi).back D333 0 (hw _ w_118) (hw _ w_61) (by decide) (by decide)) rfl [(.ref t), (.int (3 : Int32))] rfl (lenOf pd_5 rfl) rfl (Nat.le_of_eq rfl) (by decide) (by decide) d_jdk_42m56_21 rfl ?_
    intro v334 T334 q334 D334
    subst q334
    show Go p e below _ (T334.setTop (mkF m 24 #[.val (.ref x), .val (.int (3 : Int32))] [(.int c3)]))
    exact r_N D334 hret (by simp) hlk d_jdk_42m56_24 ⟨congrArg (fun z => some (Value.int z)) (nar16 Hi), rfl, rfl⟩ (by decide) (by decide)
theorem cDr (l : Launch) (Z : State) (a0 : Array Value) (hw : tHW Z a0) (ws : List Jvm.Cond) (i : Int32) (h0 : Heap) (n0 : Nat) (Z0 : n0 ≤ h0.size)  :
    Con l (⟨"com/example/twelfths/twelfths/input/PlainDecimalIsPlainPinLaw", "draw", "(I)C"⟩ : MethodName) method_3_code 3 (some .char) ws ({ frames := 0, cells := 0, slots := 0, locals := 0 } : Room) Z #[(.int i)] h0 (fun v h L => (∃ r, v = some (.int r) ∧ C16 r) ∧ L = [] ∧ h = h0) 0 0 := by
  refine enter (plainFor_of_name pn_4) ?_
  intro p e s m below meth c s₁ hnm hret hlk D0
  rw [ef_cDr m i]
  refine g_iloadN D0 1 d_method_3_0 rfl rfl ?_
  refine g_iconst D0 2 (3 : Int32) d_method_3_1 rfl rfl ?_
  refine g_iand D0 3 d_method_3_2 rfl ?_
  refine g_istoreN D0 4 #[.val (.int i), .val (.int (i &&& (3 : Int32))), .unset] d_method_3_3 rfl rfl ?_
  refine g_iloadN D0 5 d_method_3_4 rfl rfl ?_
  refine g_iconst D0 6 (2 : Int32) d_method_3_5 rfl rfl ?_
  refine g_iushr D0 7 d_method_3_6 rfl ?_
  refine g_istoreN D0 8 #[.val (.int i), .val (.int (i &&& (3 : Int32))), .val (.int (XT.ushr i (2 : Int32)))] d_method_3_7 rfl rfl ?_
  refine g_iloadN D0 9 d_method_3_8 rfl rfl ?_
  by_cases z335 : (i &&& (3 : Int32)) = (0 : Int32)
  · refine g_ifN D0 12 d_method_3_9 (teq z335).2 rfl ?_
    refine g_bipush D0 14 (48 : Int32) d_method_3_12 rfl rfl ?_
    refine g_iloadN D0 15 d_method_3_14 rfl rfl ?_
    refine g_bipush D0 17 (10 : Int32) d_method_3_15 rfl rfl ?_
    refine g_irem D0 18 d_method_3_17 (by decide) rfl ?_
    refine g_iadd D0 19 d_method_3_18 rfl ?_
    refine g_i2c D0 20 d_method_3_19 rfl ?_
    exact r_N D0 hret (by simp) hlk d_method_3_20 ⟨⟨_, rfl, c16_nar _⟩, rfl, rfl⟩ (by decide) (by decide)
  refine g_ifY D0 21 d_method_3_9 (feq z335).2 (by decide) (by decide) ?_
  refine g_iloadN D0 22 d_method_3_21 rfl rfl ?_
  refine g_iconst D0 23 (1 : Int32) d_method_3_22 rfl rfl ?_
  by_cases z336 : (i &&& (3 : Int32)) = (1 : Int32)
  · refine g_icmpN D0 26 d_method_3_23 (teq z336).2 rfl ?_
    refine g_bipush D0 28 (46 : Int32) d_method_3_26 rfl rfl ?_
    exact r_N D0 hret (by simp) hlk d_method_3_28 ⟨⟨_, rfl, c16_nar _⟩, rfl, rfl⟩ (by decide) (by decide)
  refine g_icmpY D0 29 d_method_3_23 (feq z336).2 (by decide) (by decide) ?_
  refine g_iloadN D0 30 d_method_3_29 rfl rfl ?_
  refine g_iconst D0 31 (2 : Int32) d_method_3_30 rfl rfl ?_
  by_cases z337 : (i &&& (3 : Int32)) = (2 : Int32)
  · refine g_icmpN D0 34 d_method_3_31 (teq z337).2 rfl ?_
    refine g_iloadN D0 35 d_method_3_34 rfl rfl ?_
    refine g_iconst D0 36 (1 : Int32) d_method_3_35 rfl rfl ?_
    refine g_iand D0 37 d_method_3_36 rfl ?_
    by_cases z338 : ((XT.ushr i (2 : Int32)) &&& (1 : Int32)) = (0 : Int32)
    · refine g_ifN D0 40 d_method_3_37 (teq z338).2 rfl ?_
      refine g_bipush D0 42 (43 : Int32) d_method_3_40 rfl rfl ?_
      refine g_goto D0 47 d_method_3_42 (by decide) (by decide) ?_
      exact r_N D0 hret (by simp) hlk d_method_3_47 ⟨⟨_, rfl, c16_nar _⟩, rfl, rfl⟩ (by decide) (by decide)
    refine g_ifY D0 45 d_method_3_37 (feq z338).2 (by decide) (by decide) ?_
    refine g_bipush D0 47 (45 : Int32) d_method_3_45 rfl rfl ?_
    exact r_N D0 hret (by simp) hlk d_method_3_47 ⟨⟨_, rfl, c16_nar _⟩, rfl, rfl⟩ (by decide) (by decide)
  refine g_icmpY D0 48 d_method_3_31 (feq z337).2 (by decide) (by decide) ?_
  refine g_iloadN D0 49 d_method_3_48 rfl rfl ?_
  refine g_ldcI D0 51 (hw _ w_5) d_method_3_49 rfl ?_
  refine g_iand D0 52 d_method_3_51 rfl ?_
  refine g_i2c D0 53 d_method_3_52 rfl ?_
  exact r_N D0 hret (by simp) hlk d_method_3_53 ⟨⟨_, rfl, c16_nar _⟩, rfl, rfl⟩ (by decide) (by decide)
theorem cIn (l : Launch) (Z : State) (a0 : Array Value) (hw : tHW Z a0) (ws : List Jvm.Cond) (i f n : Int32) (h0 : Heap) (n0 : Nat) (Z0 : n0 ≤ h0.size)  :
    Con l (⟨"com/example/twelfths/twelfths/input/PlainDecimalIsPlainPinLaw", "in", "(III)Z"⟩ : MethodName) method_4_code 3 (some .boolean) ws ({ frames := 0, cells := 0, slots := 0, locals := 0 } : Room) Z #[(.int i), (.int f), (.int n)] h0 (fun v h L => v = some (.int (own_in i f n)) ∧ L = [] ∧ h = h0) 0 0 := by
  refine enter (plainFor_of_name pn_4) ?_
  intro p e s m below meth c s₁ hnm hret hlk D0
  rw [ef_cIn m i f n]
  refine g_iloadN D0 1 d_method_4_0 rfl rfl ?_
  refine g_iloadN D0 2 d_method_4_1 rfl rfl ?_
  by_cases z0 : i < f
  · refine g_icmpY D0 14 d_method_4_2 (tlt z0).1 (by decide) (by decide) ?_
    refine g_iconst D0 15 (0 : Int32) d_method_4_14 rfl rfl ?_
    exact r_N D0 hret (by simp) hlk d_method_4_15 ⟨congrArg (fun z => some (Value.int z)) (own_nar0.trans (if_pos z0).symm), rfl, rfl⟩ (by decide) (by decide)
  refine g_icmpN D0 5 d_method_4_2 (flt z0).1 rfl ?_
  refine g_iloadN D0 6 d_method_4_5 rfl rfl ?_
  refine g_iloadN D0 7 d_method_4_6 rfl rfl ?_
  by_cases z1 : i < n
  · refine g_icmpN D0 10 d_method_4_7 (tlt z1).2.1 rfl ?_
    refine g_iconst D0 11 (1 : Int32) d_method_4_10 rfl rfl ?_
    refine g_goto D0 15 d_method_4_11 (by decide) (by decide) ?_
    exact r_N D0 hret (by simp) hlk d_method_4_15 ⟨congrArg (fun z => some (Value.int z)) (own_nar1.trans ((if_neg z0).trans (if_pos z1)).symm), rfl, rfl⟩ (by decide) (by decide)
  refine g_icmpY D0 14 d_method_4_7 (flt z1).2.1 (by decide) (by decide) ?_
  refine g_iconst D0 15 (0 : Int32) d_method_4_14 rfl rfl ?_
  exact r_N D0 hret (by simp) hlk d_method_4_15 ⟨congrArg (fun z => some (Value.int z)) (own_nar0.trans ((if_neg z0).trans (if_neg z1)).symm), rfl, rfl⟩ (by decide) (by decide)
theorem cDg (l : Launch) (Z : State) (a0 : Array Value) (hw : tHW Z a0) (ws : List Jvm.Cond) (ch : Int32) (h0 : Heap) (n0 : Nat) (Z0 : n0 ≤ h0.size)  :
    Con l (⟨"com/example/twelfths/twelfths/input/PlainDecimalIsPlainPinLaw", "isDigit", "(C)Z"⟩ : MethodName) method_5_code 1 (some .boolean) ws ({ frames := 0, cells := 0, slots := 0, locals := 0 } : Room) Z #[(.int ch)] h0 (fun v h L => v = some (.int (own_kd (own_cls ch))) ∧ L = [] ∧ h = h0) 0 0 := by
  refine enter (plainFor_of_name pn_4) ?_
  intro p e s m below meth c s₁ hnm hret hlk D0
  rw [ef_cDg m ch]
  refine g_iloadN D0 1 d_method_5_0 rfl rfl ?_
  refine g_bipush D0 3 (48 : Int32) d_method_5_1 rfl rfl ?_
  by_cases z0 : ch < (48 : Int32)
  · refine g_icmpY D0 16 d_method_5_3 (tlt z0).1 (by decide) (by decide) ?_
    refine g_iconst D0 17 (0 : Int32) d_method_5_16 rfl rfl ?_
    exact r_N D0 hret (by simp) hlk d_method_5_17 ⟨congrArg (fun z => some (Value.int z)) (own_nar0.trans (by by_cases q : ch = (46 : Int32) <;> simp [own_kd, own_cls, z0, q])), rfl, rfl⟩ (by decide) (by decide)
  refine g_icmpN D0 6 d_method_5_3 (flt z0).1 rfl ?_
  refine g_iloadN D0 7 d_method_5_6 rfl rfl ?_
  refine g_bipush D0 9 (57 : Int32) d_method_5_7 rfl rfl ?_
  by_cases z1 : (57 : Int32) < ch
  · refine g_icmpY D0 16 d_method_5_9 (tlt z1).2.2.1 (by decide) (by decide) ?_
    refine g_iconst D0 17 (0 : Int32) d_method_5_16 rfl rfl ?_
    exact r_N D0 hret (by simp) hlk d_method_5_17 ⟨congrArg (fun z => some (Value.int z)) (own_nar0.trans (by rw [cls_g z0 z1]; rfl)), rfl, rfl⟩ (by decide) (by decide)
  refine g_icmpN D0 12 d_method_5_9 (flt z1).2.2.1 rfl ?_
  refine g_iconst D0 13 (1 : Int32) d_method_5_12 rfl rfl ?_
  refine g_goto D0 17 d_method_5_13 (by decide) (by decide) ?_
  exact r_N D0 hret (by simp) hlk d_method_5_17 ⟨congrArg (fun z => some (Value.int z)) (own_nar1.trans (by rw [cls_d z0 z1]; rfl)), rfl, rfl⟩ (by decide) (by decide)
theorem cDi (l : Launch) (Z : State) (a0 : Array Value) (hw : tHW Z a0) (ws : List Jvm.Cond) (ch i f n : Int32) (h0 : Heap) (n0 : Nat) (Z0 : n0 ≤ h0.size)  :
    Con l (⟨"com/example/twelfths/twelfths/input/PlainDecimalIsPlainPinLaw", "dig", "(CIII)I"⟩ : MethodName) method_6_code 4 (some .int) ws ({ frames := 1, cells := 0, slots := 0, locals := 14 } : Room) Z #[(.int ch), (.int i), (.int f), (.int n)] h0 (fun v h L => v = some (.int (own_g i f n (own_kd (own_cls ch)))) ∧ L = [] ∧ h = h0) 0 0 := by
  refine enter (plainFor_of_name pn_4) ?_
  intro p e s m below meth c s₁ hnm hret hlk D0
  rw [ef_cDi m ch i f n]
  refine g_iloadN D0 1 d_method_6_0 rfl rfl ?_
  refine g_iloadN D0 2 d_method_6_1 rfl rfl ?_
  refine g_iloadN D0 3 d_method_6_2 rfl rfl ?_
  refine g_callSp D0 6 (hw _ w_31) (hw _ w_32) (hw _ w_3) (hw _ w_33) (by decide) ((cIn l Z a0 hw [] i f n h0 n0 Z0).back D0 0 (hw _ w_33) (hw _ w_3) (by decide) (by decide)) rfl [(.int i), (.int f), (.int n)] rfl (lenOf pd_13 rfl) rfl (Nat.le_of_eq rfl) (by decide) (by decide) d_method_6_3 rfl ?_
  intro v339 T339 q339 D339
  subst q339
  show Go p e below _ (T339.setTop (mkF m 6 #[.val (.int ch), .val (.int i), .val (.int f), .val (.int n)] [(.int (own_in i f n))]))
  by_cases z0 : (own_in i f n) = (0 : Int32)
  · refine g_ifY D339 20 d_method_6_6 (teq z0).1 (by decide) (by decide) ?_
    refine g_iconst D339 21 (0 : Int32) d_method_6_20 rfl rfl ?_
    exact r_I D339 hret hlk d_method_6_21 ⟨congrArg (fun z => some (Value.int z)) (if_pos z0).symm, rfl, rfl⟩ (by decide) (by decide)
  refine g_ifN D339 9 d_method_6_6 (feq z0).1 rfl ?_
  refine g_iloadN D339 10 d_method_6_9 rfl rfl ?_
  refine g_callSp D339 13 (hw _ w_69) (hw _ w_70) (hw _ w_3) (hw _ w_71) (by decide) ((cDg l Z a0 hw [] ch h0 n0 Z0).back D339 0 (hw _ w_71) (hw _ w_3) (by decide) (by decide)) rfl [(.int ch)] rfl (lenOf pd_14 rfl) rfl (Nat.le_of_eq rfl) (by decide) (by decide) d_method_6_10 rfl ?_
  intro v340 T340 q340 D340
  subst q340
  show Go p e below _ (T340.setTop (mkF m 13 #[.val (.int ch), .val (.int i), .val (.int f), .val (.int n)] [(.int (own_kd (own_cls ch)))]))
  by_cases z1 : (own_kd (own_cls ch)) = (0 : Int32)
  · refine g_ifY D340 20 d_method_6_13 (teq z1).1 (by decide) (by decide) ?_
    refine g_iconst D340 21 (0 : Int32) d_method_6_20 rfl rfl ?_
    exact r_I D340 hret hlk d_method_6_21 ⟨congrArg (fun z => some (Value.int z)) ((if_neg z0).trans z1).symm, rfl, rfl⟩ (by decide) (by decide)
  refine g_ifN D340 16 d_method_6_13 (feq z1).1 rfl ?_
  refine g_iconst D340 17 (1 : Int32) d_method_6_16 rfl rfl ?_
  refine g_goto D340 21 d_method_6_17 (by decide) (by decide) ?_
  exact r_I D340 hret hlk d_method_6_21 ⟨congrArg (fun z => some (Value.int z)) ((if_neg z0).trans (by rw [own_kd1 z1]; rfl)).symm, rfl, rfl⟩ (by decide) (by decide)
theorem cPt (l : Launch) (Z : State) (a0 : Array Value) (hw : tHW Z a0) (ws : List Jvm.Cond) (ch i f n : Int32) (h0 : Heap) (n0 : Nat) (Z0 : n0 ≤ h0.size)  :
    Con l (⟨"com/example/twelfths/twelfths/input/PlainDecimalIsPlainPinLaw", "pt", "(CIII)I"⟩ : MethodName) method_7_code 4 (some .int) ws ({ frames := 1, cells := 0, slots := 0, locals := 14 } : Room) Z #[(.int ch), (.int i), (.int f), (.int n)] h0 (fun v h L => v = some (.int (own_g i f n (own_kp (own_cls ch)))) ∧ L = [] ∧ h = h0) 0 0 := by
  refine enter (plainFor_of_name pn_4) ?_
  intro p e s m below meth c s₁ hnm hret hlk D0
  rw [ef_cPt m ch i f n]
  refine g_iloadN D0 1 d_method_7_0 rfl rfl ?_
  refine g_iloadN D0 2 d_method_7_1 rfl rfl ?_
  refine g_iloadN D0 3 d_method_7_2 rfl rfl ?_
  refine g_callSp D0 6 (hw _ w_31) (hw _ w_32) (hw _ w_3) (hw _ w_33) (by decide) ((cIn l Z a0 hw [] i f n h0 n0 Z0).back D0 0 (hw _ w_33) (hw _ w_3) (by decide) (by decide)) rfl [(.int i), (.int f), (.int n)] rfl (lenOf pd_13 rfl) rfl (Nat.le_of_eq rfl) (by decide) (by decide) d_method_7_3 rfl ?_
  intro v341 T341 q341 D341
  subst q341
  show Go p e below _ (T341.setTop (mkF m 6 #[.val (.int ch), .val (.int i), .val (.int f), .val (.int n)] [(.int (own_in i f n))]))
  by_cases z0 : (own_in i f n) = (0 : Int32)
  · refine g_ifY D341 19 d_method_7_6 (teq z0).1 (by decide) (by decide) ?_
    refine g_iconst D341 20 (0 : Int32) d_method_7_19 rfl rfl ?_
    exact r_I D341 hret hlk d_method_7_20 ⟨congrArg (fun z => some (Value.int z)) (if_pos z0).symm, rfl, rfl⟩ (by decide) (by decide)
  refine g_ifN D341 9 d_method_7_6 (feq z0).1 rfl ?_
  refine g_iloadN D341 10 d_method_7_9 rfl rfl ?_
  refine g_bipush D341 12 (46 : Int32) d_method_7_10 rfl rfl ?_
  by_cases z1 : ch = (46 : Int32)
  · refine g_icmpN D341 15 d_method_7_12 (teq z1).2 rfl ?_
    refine g_iconst D341 16 (1 : Int32) d_method_7_15 rfl rfl ?_
    refine g_goto D341 20 d_method_7_16 (by decide) (by decide) ?_
    exact r_I D341 hret hlk d_method_7_20 ⟨congrArg (fun z => some (Value.int z)) ((if_neg z0).trans (by rw [own_46 z1]; rfl)).symm, rfl, rfl⟩ (by decide) (by decide)
  refine g_icmpY D341 19 d_method_7_12 (feq z1).2 (by decide) (by decide) ?_
  refine g_iconst D341 20 (0 : Int32) d_method_7_19 rfl rfl ?_
  exact r_I D341 hret hlk d_method_7_20 ⟨congrArg (fun z => some (Value.int z)) ((if_neg z0).trans (own_kp0 (own_n46 z1))).symm, rfl, rfl⟩ (by decide) (by decide)
theorem cOt (l : Launch) (Z : State) (a0 : Array Value) (hw : tHW Z a0) (ws : List Jvm.Cond) (ch i f n : Int32) (h0 : Heap) (n0 : Nat) (Z0 : n0 ≤ h0.size)  :
    Con l (⟨"com/example/twelfths/twelfths/input/PlainDecimalIsPlainPinLaw", "other", "(CIII)I"⟩ : MethodName) method_8_code 4 (some .int) ws ({ frames := 1, cells := 0, slots := 0, locals := 14 } : Room) Z #[(.int ch), (.int i), (.int f), (.int n)] h0 (fun v h L => v = some (.int (own_g i f n (own_ko (own_cls ch)))) ∧ L = [] ∧ h = h0) 0 0 := by
  refine enter (plainFor_of_name pn_4) ?_
  intro p e s m below meth c s₁ hnm hret hlk D0
  rw [ef_cOt m ch i f n]
  refine g_iloadN D0 1 d_method_8_0 rfl rfl ?_
  refine g_iloadN D0 2 d_method_8_1 rfl rfl ?_
  refine g_iloadN D0 3 d_method_8_2 rfl rfl ?_
  refine g_callSp D0 6 (hw _ w_31) (hw _ w_32) (hw _ w_3) (hw _ w_33) (by decide) ((cIn l Z a0 hw [] i f n h0 n0 Z0).back D0 0 (hw _ w_33) (hw _ w_3) (by decide) (by decide)) rfl [(.int i), (.int f), (.int n)] rfl (lenOf pd_13 rfl) rfl (Nat.le_of_eq rfl) (by decide) (by decide) d_method_8_3 rfl ?_
  intro v342 T342 q342 D342
  subst q342
  show Go p e below _ (T342.setTop (mkF m 6 #[.val (.int ch), .val (.int i), .val (.int f), .val (.int n)] [(.int (own_in i f n))]))
  by_cases z0 : (own_in i f n) = (0 : Int32)
  · refine g_ifY D342 26 d_method_8_6 (teq z0).1 (by decide) (by decide) ?_
    refine g_iconst D342 27 (0 : Int32) d_method_8_26 rfl rfl ?_
    exact r_I D342 hret hlk d_method_8_27 ⟨congrArg (fun z => some (Value.int z)) (if_pos z0).symm, rfl, rfl⟩ (by decide) (by decide)
  refine g_ifN D342 9 d_method_8_6 (feq z0).1 rfl ?_
  refine g_iloadN D342 10 d_method_8_9 rfl rfl ?_
  refine g_callSp D342 13 (hw _ w_69) (hw _ w_70) (hw _ w_3) (hw _ w_71) (by decide) ((cDg l Z a0 hw [] ch h0 n0 Z0).back D342 0 (hw _ w_71) (hw _ w_3) (by decide) (by decide)) rfl [(.int ch)] rfl (lenOf pd_14 rfl) rfl (Nat.le_of_eq rfl) (by decide) (by decide) d_method_8_10 rfl ?_
  intro v343 T343 q343 D343
  subst q343
  show Go p e below _ (T343.setTop (mkF m 13 #[.val (.int ch), .val (.int i), .val (.int f), .val (.int n)] [(.int (own_kd (own_cls ch)))]))
  by_cases z1 : (own_kd (own_cls ch)) = (0 : Int32)
  · refine g_ifN D343 16 d_method_8_13 (teq z1).2 rfl ?_
    refine g_iloadN D343 17 d_method_8_16 rfl rfl ?_
    refine g_bipush D343 19 (46 : Int32) d_method_8_17 rfl rfl ?_
    by_cases z2 : ch = (46 : Int32)
    · refine g_icmpY D343 26 d_method_8_19 (teq z2).1 (by decide) (by decide) ?_
      refine g_iconst D343 27 (0 : Int32) d_method_8_26 rfl rfl ?_
      exact r_I D343 hret hlk d_method_8_27 ⟨congrArg (fun z => some (Value.int z)) ((if_neg z0).trans (by rw [own_46 z2]; rfl)).symm, rfl, rfl⟩ (by decide) (by decide)
    refine g_icmpN D343 22 d_method_8_19 (feq z2).1 rfl ?_
    refine g_iconst D343 23 (1 : Int32) d_method_8_22 rfl rfl ?_
    refine g_goto D343 27 d_method_8_23 (by decide) (by decide) ?_
    exact r_I D343 hret hlk d_method_8_27 ⟨congrArg (fun z => some (Value.int z)) ((if_neg z0).trans (by rw [own_f3 (own_kd0 z1) (own_n46 z2)]; rfl)).symm, rfl, rfl⟩ (by decide) (by decide)
  refine g_ifY D343 26 d_method_8_13 (feq z1).2 (by decide) (by decide) ?_
  refine g_iconst D343 27 (0 : Int32) d_method_8_26 rfl rfl ?_
  exact r_I D343 hret hlk d_method_8_27 ⟨congrArg (fun z => some (Value.int z)) ((if_neg z0).trans (by rw [own_kd1 z1]; rfl)).symm, rfl, rfl⟩ (by decide) (by decide)
theorem cPl_0 (l : Launch) (Z : State) (a0 : Array Value) (hw : tHW Z a0) (ws : List Jvm.Cond) (x : Addr) (zc : Int32) (fm : Value)  (h0 : Heap) (n0 : Nat) (Z0 : n0 ≤ h0.size) (OLD : Old Z n0 h0) (SA : tSA Z) (SH : tSH Z) (SL : tSL Z) (CS : tCS Z zc) (hzc : ¬ zc = 0) (SFm : tSF Z fm) (rfm : fm.isRef = true) (X_x : TS Z h0 x []) :
    Con l (⟨"com/example/twelfths/twelfths/input/PlainDecimal", "isPlain", "(Ljava/lang/CharSequence;)Z"⟩ : MethodName) prog_29_method_2_code 6 (some .boolean) ws ({ frames := 5, cells := 0, slots := 0, locals := 66 } : Room) Z #[(.ref x)] h0 (fun v h L => v = some (.int (own_run [] 0 0)) ∧ L = [] ∧ h = h0) 0 0 := by
  refine enter (plainFor_of_name pn_5) ?_
  intro p e s m below meth c s₁ hnm hret hlk D0
  rw [ef_cPl_0 m x]
  refine g_aloadN D0 1 d_prog_29m2_0 rfl rfl rfl ?_
  refine g_callIp D0 6 (hw _ w_44) (hw _ w_45) (hw _ w_46) (hw _ w_47) (hw _ w_48) (hw _ w_49) (hw _ w_50) (hw _ w_51) (by decide) (TS.lenB 0 D0 hw X_x (CS.ext OLD.2) hzc (by decide) (by decide)) X_x.exa rfl [] rfl (lenOf pd_15 rfl) rfl (Nat.le_of_eq rfl) (by decide) (by decide) d_prog_29m2_1 rfl ?_
  intro v344 T344 q344 D344
  subst q344
  show Go p e below _ (T344.setTop (mkF m 6 #[.val (.ref x), .unset, .unset, .unset, .unset, .unset] [(.int (0 : Int32))]))
  refine g_istoreN D344 7 #[.val (.ref x), .val (.int (0 : Int32)), .unset, .unset, .unset, .unset] d_prog_29m2_6 rfl rfl ?_
  refine g_iloadN D344 8 d_prog_29m2_7 rfl rfl ?_
  refine g_ifY D344 39 d_prog_29m2_8 (by decide) (by decide) (by decide) ?_
  refine g_iconst D344 40 (0 : Int32) d_prog_29m2_39 rfl rfl ?_
  refine g_istoreN D344 41 #[.val (.ref x), .val (.int (0 : Int32)), .val (.int (0 : Int32)), .unset, .unset, .unset] d_prog_29m2_40 rfl rfl ?_
  refine g_iconst D344 42 (0 : Int32) d_prog_29m2_41 rfl rfl ?_
  refine g_istoreN D344 43 #[.val (.ref x), .val (.int (0 : Int32)), .val (.int (0 : Int32)), .val (.int (0 : Int32)), .unset, .unset] d_prog_29m2_42 rfl rfl ?_
  refine g_iconst D344 44 (0 : Int32) d_prog_29m2_43 rfl rfl ?_
  refine g_istore D344 46 #[.val (.ref x), .val (.int (0 : Int32)), .val (.int (0 : Int32)), .val (.int (0 : Int32)), .val (.int (0 : Int32)), .unset] d_prog_29m2_44 rfl rfl ?_
  refine g_iloadN D344 47 d_prog_29m2_46 rfl rfl ?_
  refine g_iloadN D344 48 d_prog_29m2_47 rfl rfl ?_
  refine g_icmpY D344 105 d_prog_29m2_48 (by decide) (by decide) (by decide) ?_
  refine g_iloadN D344 106 d_prog_29m2_105 rfl rfl ?_
  exact r_N D344 hret (by simp) hlk d_prog_29m2_106 ⟨congrArg (fun z => some (Value.int z)) (own_nar0.trans (rfl).symm), rfl, rfl⟩ (by decide) (by decide)
theorem cPl_1 (l : Launch) (Z : State) (a0 : Array Value) (hw : tHW Z a0) (ws : List Jvm.Cond) (x : Addr) (zc : Int32) (fm : Value) (c0 : Int32) (h0 : Heap) (n0 : Nat) (Z0 : n0 ≤ h0.size) (OLD : Old Z n0 h0) (SA : tSA Z) (SH : tSH Z) (SL : tSL Z) (CS : tCS Z zc) (hzc : ¬ zc = 0) (SFm : tSF Z fm) (rfm : fm.isRef = true) (X_x : TS Z h0 x [c0]) :
    Con l (⟨"com/example/twelfths/twelfths/input/PlainDecimal", "isPlain", "(Ljava/lang/CharSequence;)Z"⟩ : MethodName) prog_29_method_2_code 6 (some .boolean) ws ({ frames := 5, cells := 0, slots := 0, locals := 66 } : Room) Z #[(.ref x)] h0 (fun v h L => v = some (.int (if own_sg c0 then (own_run [] 0 0) else (own_run [own_cls c0] 0 0))) ∧ L = [] ∧ h = h0) 0 0 := by
  refine enter (plainFor_of_name pn_5) ?_
  intro p e s m below meth c s₁ hnm hret hlk D0
  rw [ef_cPl_1 m x]
  refine g_aloadN D0 1 d_prog_29m2_0 rfl rfl rfl ?_
  refine g_callIp D0 6 (hw _ w_44) (hw _ w_45) (hw _ w_46) (hw _ w_47) (hw _ w_48) (hw _ w_49) (hw _ w_50) (hw _ w_51) (by decide) (TS.lenB 0 D0 hw X_x (CS.ext OLD.2) hzc (by decide) (by decide)) X_x.exa rfl [] rfl (lenOf pd_15 rfl) rfl (Nat.le_of_eq rfl) (by decide) (by decide) d_prog_29m2_1 rfl ?_
  intro v345 T345 q345 D345
  subst q345
  show Go p e below _ (T345.setTop (mkF m 6 #[.val (.ref x), .unset, .unset, .unset, .unset, .unset] [(.int (1 : Int32))]))
  refine g_istoreN D345 7 #[.val (.ref x), .val (.int (1 : Int32)), .unset, .unset, .unset, .unset] d_prog_29m2_6 rfl rfl ?_
  refine g_iloadN D345 8 d_prog_29m2_7 rfl rfl ?_
  refine g_ifN D345 11 d_prog_29m2_8 (by decide) rfl ?_
  refine g_aloadN D345 12 d_prog_29m2_11 rfl rfl rfl ?_
  refine g_iconst D345 13 (0 : Int32) d_prog_29m2_12 rfl rfl ?_
  refine g_callIp D345 18 (hw _ w_72) (hw _ w_73) (hw _ w_74) (hw _ w_75) (hw _ w_76) (hw _ w_77) (hw _ w_78) (hw _ w_51) (by decide) ((cSCh_1_0 l Z a0 hw [] x zc fm c0 h0 n0 Z0 OLD SA SH SL CS hzc SFm rfm X_x).back D345 0 (hw _ w_79) (hw _ w_8) (by decide) (by decide)) X_x.exa rfl [(.int (0 : Int32))] rfl (lenOf pd_16 rfl) rfl (Nat.le_of_eq rfl) (by decide) (by decide) d_prog_29m2_13 rfl ?_
  intro v346 T346 q346 D346
  subst q346
  show Go p e below _ (T346.setTop (mkF m 18 #[.val (.ref x), .val (.int (1 : Int32)), .unset, .unset, .unset, .unset] [(.int c0)]))
  refine g_bipush D346 20 (43 : Int32) d_prog_29m2_18 rfl rfl ?_
  suffices KJ : ∀ TJ, Wk p l e ({ frames := 5, cells := 0, slots := 0, locals := 66 } : Room) m #[.ref x] below meth c "com/example/twelfths/twelfths/input/PlainDecimal" prog_29_method_2_code 6 Z NI s TJ [] 0 0 h0 → own_sg c0 → Go p e below (NG s (fun v h L => v = some (.int (if own_sg c0 then (own_run [] 0 0) else (own_run [own_cls c0] 0 0))) ∧ L = [] ∧ h = h0) 0 0) (TJ.setTop (mkF m 40 #[.val (.ref x), .val (.int (1 : Int32)), .unset, .unset, .unset, .unset] [(.int (1 : Int32))])) by
    by_cases y0 : c0 = (43 : Int32)
    · refine g_icmpY D346 35 d_prog_29m2_20 (teq y0).1 (by decide) (by decide) ?_
      refine g_iconst D346 36 (1 : Int32) d_prog_29m2_35 rfl rfl ?_
      refine g_goto D346 40 d_prog_29m2_36 (by decide) (by decide) ?_
      exact KJ _ D346 (Or.inl y0)
    refine g_icmpN D346 23 d_prog_29m2_20 (feq y0).1 rfl ?_
    refine g_aloadN D346 24 d_prog_29m2_23 rfl rfl rfl ?_
    refine g_iconst D346 25 (0 : Int32) d_prog_29m2_24 rfl rfl ?_
    refine g_callIp D346 30 (hw _ w_72) (hw _ w_73) (hw _ w_74) (hw _ w_75) (hw _ w_76) (hw _ w_77) (hw _ w_78) (hw _ w_51) (by decide) ((cSCh_1_0 l Z a0 hw [] x zc fm c0 h0 n0 Z0 OLD SA SH SL CS hzc SFm rfm X_x).back D346 0 (hw _ w_79) (hw _ w_8) (by decide) (by decide)) X_x.exa rfl [(.int (0 : Int32))] rfl (lenOf pd_16 rfl) rfl (Nat.le_of_eq rfl) (by decide) (by decide) d_prog_29m2_25 rfl ?_
    intro v347 T347 q347 D347
    subst q347
    show Go p e below _ (T347.setTop (mkF m 30 #[.val (.ref x), .val (.int (1 : Int32)), .unset, .unset, .unset, .unset] [(.int c0)]))
    refine g_bipush D347 32 (45 : Int32) d_prog_29m2_30 rfl rfl ?_
    by_cases y1 : c0 = (45 : Int32)
    · refine g_icmpN D347 35 d_prog_29m2_32 (teq y1).2 rfl ?_
      refine g_iconst D347 36 (1 : Int32) d_prog_29m2_35 rfl rfl ?_
      refine g_goto D347 40 d_prog_29m2_36 (by decide) (by decide) ?_
      exact KJ _ D347 (Or.inr y1)
    refine g_icmpY D347 39 d_prog_29m2_32 (feq y1).2 (by decide) (by decide) ?_
    refine g_iconst D347 40 (0 : Int32) d_prog_29m2_39 rfl rfl ?_
    have sg : ¬ own_sg c0 := fun q => q.elim y0 y1
    refine g_istoreN D347 41 #[.val (.ref x), .val (.int (1 : Int32)), .val (.int (0 : Int32)), .unset, .unset, .unset] d_prog_29m2_40 rfl rfl ?_
    refine g_iconst D347 42 (0 : Int32) d_prog_29m2_41 rfl rfl ?_
    refine g_istoreN D347 43 #[.val (.ref x), .val (.int (1 : Int32)), .val (.int (0 : Int32)), .val (.int (0 : Int32)), .unset, .unset] d_prog_29m2_42 rfl rfl ?_
    refine g_iconst D347 44 (0 : Int32) d_prog_29m2_43 rfl rfl ?_
    refine g_istore D347 46 #[.val (.ref x), .val (.int (1 : Int32)), .val (.int (0 : Int32)), .val (.int (0 : Int32)), .val (.int (0 : Int32)), .unset] d_prog_29m2_44 rfl rfl ?_
    refine g_iloadN D347 47 d_prog_29m2_46 rfl rfl ?_
    refine g_iloadN D347 48 d_prog_29m2_47 rfl rfl ?_
    refine g_icmpN D347 51 d_prog_29m2_48 (by decide) rfl ?_
    refine g_aloadN D347 52 d_prog_29m2_51 rfl rfl rfl ?_
    refine g_iloadN D347 53 d_prog_29m2_52 rfl rfl ?_
    refine g_callIp D347 58 (hw _ w_72) (hw _ w_73) (hw _ w_74) (hw _ w_75) (hw _ w_76) (hw _ w_77) (hw _ w_78) (hw _ w_51) (by decide) ((cSCh_1_0 l Z a0 hw [] x zc fm c0 h0 n0 Z0 OLD SA SH SL CS hzc SFm rfm X_x).back D347 0 (hw _ w_79) (hw _ w_8) (by decide) (by decide)) X_x.exa rfl [(.int (0 : Int32))] rfl (lenOf pd_16 rfl) rfl (Nat.le_of_eq rfl) (by decide) (by decide) d_prog_29m2_53 rfl ?_
    intro v348 T348 q348 D348
    subst q348
    show Go p e below _ (T348.setTop (mkF m 58 #[.val (.ref x), .val (.int (1 : Int32)), .val (.int (0 : Int32)), .val (.int (0 : Int32)), .val (.int (0 : Int32)), .unset] [(.int c0)]))
    refine g_istore D348 60 #[.val (.ref x), .val (.int (1 : Int32)), .val (.int (0 : Int32)), .val (.int (0 : Int32)), .val (.int (0 : Int32)), .val (.int c0)] d_prog_29m2_58 rfl rfl ?_
    refine g_iload D348 62 d_prog_29m2_60 rfl rfl ?_
    refine g_bipush D348 64 (48 : Int32) d_prog_29m2_62 rfl rfl ?_
    by_cases zA0 : c0 < (48 : Int32)
    · refine g_icmpY D348 79 d_prog_29m2_64 (tlt zA0).1 (by decide) (by decide) ?_
      refine g_iload D348 81 d_prog_29m2_79 rfl rfl ?_
      refine g_bipush D348 83 (46 : Int32) d_prog_29m2_81 rfl rfl ?_
      by_cases zB0 : c0 = (46 : Int32)
      · refine g_icmpN D348 86 d_prog_29m2_83 (teq zB0).2 rfl ?_
        have k0 := cls_p zA0 zB0
        refine g_iload D348 88 d_prog_29m2_86 rfl rfl ?_
        refine g_ifN D348 91 d_prog_29m2_88 (by decide) rfl ?_
        refine g_iconst D348 92 (1 : Int32) d_prog_29m2_91 rfl rfl ?_
        refine g_istore D348 94 #[.val (.ref x), .val (.int (1 : Int32)), .val (.int (0 : Int32)), .val (.int (0 : Int32)), .val (.int (1 : Int32)), .val (.int c0)] d_prog_29m2_92 rfl rfl ?_
        refine g_goto D348 99 d_prog_29m2_94 (by decide) (by decide) ?_
        refine g_iinc D348 102 (1 : Int32) #[.val (.ref x), .val (.int (1 : Int32)), .val (.int ((0 : Int32) + (1 : Int32))), .val (.int (0 : Int32)), .val (.int (1 : Int32)), .val (.int c0)] d_prog_29m2_99 rfl rfl rfl rfl ?_
        rw [show ((0 : Int32) + (1 : Int32)) = (1 : Int32) from by decide]
        refine g_goto D348 46 d_prog_29m2_102 (by decide) (by decide) ?_
        refine g_iloadN D348 47 d_prog_29m2_46 rfl rfl ?_
        refine g_iloadN D348 48 d_prog_29m2_47 rfl rfl ?_
        refine g_icmpY D348 105 d_prog_29m2_48 (by decide) (by decide) (by decide) ?_
        refine g_iloadN D348 106 d_prog_29m2_105 rfl rfl ?_
        exact r_N D348 hret (by simp) hlk d_prog_29m2_106 ⟨congrArg (fun z => some (Value.int z)) (own_nar0.trans ((if_neg sg).trans (own_l0 k0)).symm), rfl, rfl⟩ (by decide) (by decide)
      refine g_icmpY D348 97 d_prog_29m2_83 (feq zB0).2 (by decide) (by decide) ?_
      have k0 := cls_l zA0 zB0
      refine g_iconst D348 98 (0 : Int32) d_prog_29m2_97 rfl rfl ?_
      exact r_N D348 hret (by simp) hlk d_prog_29m2_98 ⟨congrArg (fun z => some (Value.int z)) (own_nar0.trans ((if_neg sg).trans (own_l1 k0)).symm), rfl, rfl⟩ (by decide) (by decide)
    refine g_icmpN D348 67 d_prog_29m2_64 (flt zA0).1 rfl ?_
    refine g_iload D348 69 d_prog_29m2_67 rfl rfl ?_
    refine g_bipush D348 71 (57 : Int32) d_prog_29m2_69 rfl rfl ?_
    by_cases zC0 : (57 : Int32) < c0
    · refine g_icmpY D348 79 d_prog_29m2_71 (tlt zC0).2.2.1 (by decide) (by decide) ?_
      refine g_iload D348 81 d_prog_29m2_79 rfl rfl ?_
      refine g_bipush D348 83 (46 : Int32) d_prog_29m2_81 rfl rfl ?_
      by_cases zD0 : c0 = (46 : Int32)
      · exact (cls_no zC0 zD0).elim
      refine g_icmpY D348 97 d_prog_29m2_83 (feq zD0).2 (by decide) (by decide) ?_
      have k0 := cls_g zA0 zC0
      refine g_iconst D348 98 (0 : Int32) d_prog_29m2_97 rfl rfl ?_
      exact r_N D348 hret (by simp) hlk d_prog_29m2_98 ⟨congrArg (fun z => some (Value.int z)) (own_nar0.trans ((if_neg sg).trans (own_l1 k0)).symm), rfl, rfl⟩ (by decide) (by decide)
    refine g_icmpN D348 74 d_prog_29m2_71 (flt zC0).2.2.1 rfl ?_
    have k0 := cls_d zA0 zC0
    refine g_iconst D348 75 (1 : Int32) d_prog_29m2_74 rfl rfl ?_
    refine g_istoreN D348 76 #[.val (.ref x), .val (.int (1 : Int32)), .val (.int (0 : Int32)), .val (.int (1 : Int32)), .val (.int (0 : Int32)), .val (.int c0)] d_prog_29m2_75 rfl rfl ?_
    refine g_goto D348 99 d_prog_29m2_76 (by decide) (by decide) ?_
    refine g_iinc D348 102 (1 : Int32) #[.val (.ref x), .val (.int (1 : Int32)), .val (.int ((0 : Int32) + (1 : Int32))), .val (.int (1 : Int32)), .val (.int (0 : Int32)), .val (.int c0)] d_prog_29m2_99 rfl rfl rfl rfl ?_
    rw [show ((0 : Int32) + (1 : Int32)) = (1 : Int32) from by decide]
    refine g_goto D348 46 d_prog_29m2_102 (by decide) (by decide) ?_
    refine g_iloadN D348 47 d_prog_29m2_46 rfl rfl ?_
    refine g_iloadN D348 48 d_prog_29m2_47 rfl rfl ?_
    refine g_icmpY D348 105 d_prog_29m2_48 (by decide) (by decide) (by decide) ?_
    refine g_iloadN D348 106 d_prog_29m2_105 rfl rfl ?_
    exact r_N D348 hret (by simp) hlk d_prog_29m2_106 ⟨congrArg (fun z => some (Value.int z)) (own_nar1.trans ((if_neg sg).trans (own_l2 k0)).symm), rfl, rfl⟩ (by decide) (by decide)
  intro TJ DJ sg
  show Go p e below _ (TJ.setTop (mkF m 40 #[.val (.ref x), .val (.int (1 : Int32)), .unset, .unset, .unset, .unset] [(.int (1 : Int32))]))
  refine g_istoreN DJ 41 #[.val (.ref x), .val (.int (1 : Int32)), .val (.int (1 : Int32)), .unset, .unset, .unset] d_prog_29m2_40 rfl rfl ?_
  refine g_iconst DJ 42 (0 : Int32) d_prog_29m2_41 rfl rfl ?_
  refine g_istoreN DJ 43 #[.val (.ref x), .val (.int (1 : Int32)), .val (.int (1 : Int32)), .val (.int (0 : Int32)), .unset, .unset] d_prog_29m2_42 rfl rfl ?_
  refine g_iconst DJ 44 (0 : Int32) d_prog_29m2_43 rfl rfl ?_
  refine g_istore DJ 46 #[.val (.ref x), .val (.int (1 : Int32)), .val (.int (1 : Int32)), .val (.int (0 : Int32)), .val (.int (0 : Int32)), .unset] d_prog_29m2_44 rfl rfl ?_
  refine g_iloadN DJ 47 d_prog_29m2_46 rfl rfl ?_
  refine g_iloadN DJ 48 d_prog_29m2_47 rfl rfl ?_
  refine g_icmpY DJ 105 d_prog_29m2_48 (by decide) (by decide) (by decide) ?_
  refine g_iloadN DJ 106 d_prog_29m2_105 rfl rfl ?_
  exact r_N DJ hret (by simp) hlk d_prog_29m2_106 ⟨congrArg (fun z => some (Value.int z)) (own_nar0.trans ((if_pos sg).trans rfl).symm), rfl, rfl⟩ (by decide) (by decide)
theorem cPl_2 (l : Launch) (Z : State) (a0 : Array Value) (hw : tHW Z a0) (ws : List Jvm.Cond) (x : Addr) (zc : Int32) (fm : Value) (c0 c1 : Int32) (h0 : Heap) (n0 : Nat) (Z0 : n0 ≤ h0.size) (OLD : Old Z n0 h0) (SA : tSA Z) (SH : tSH Z) (SL : tSL Z) (CS : tCS Z zc) (hzc : ¬ zc = 0) (SFm : tSF Z fm) (rfm : fm.isRef = true) (X_x : TS Z h0 x [c0, c1]) :
    Con l (⟨"com/example/twelfths/twelfths/input/PlainDecimal", "isPlain", "(Ljava/lang/CharSequence;)Z"⟩ : MethodName) prog_29_method_2_code 6 (some .boolean) ws ({ frames := 5, cells := 0, slots := 0, locals := 66 } : Room) Z #[(.ref x)] h0 (fun v h L => v = some (.int (if own_sg c0 then (own_run [own_cls c1] 0 0) else (own_run [own_cls c0, own_cls c1] 0 0))) ∧ L = [] ∧ h = h0) 0 0 := by
  refine enter (plainFor_of_name pn_5) ?_
  intro p e s m below meth c s₁ hnm hret hlk D0
  rw [ef_cPl_2 m x]
  refine g_aloadN D0 1 d_prog_29m2_0 rfl rfl rfl ?_
  refine g_callIp D0 6 (hw _ w_44) (hw _ w_45) (hw _ w_46) (hw _ w_47) (hw _ w_48) (hw _ w_49) (hw _ w_50) (hw _ w_51) (by decide) (TS.lenB 0 D0 hw X_x (CS.ext OLD.2) hzc (by decide) (by decide)) X_x.exa rfl [] rfl (lenOf pd_15 rfl) rfl (Nat.le_of_eq rfl) (by decide) (by decide) d_prog_29m2_1 rfl ?_
  intro v349 T349 q349 D349
  subst q349
  show Go p e below _ (T349.setTop (mkF m 6 #[.val (.ref x), .unset, .unset, .unset, .unset, .unset] [(.int (2 : Int32))]))
  refine g_istoreN D349 7 #[.val (.ref x), .val (.int (2 : Int32)), .unset, .unset, .unset, .unset] d_prog_29m2_6 rfl rfl ?_
  refine g_iloadN D349 8 d_prog_29m2_7 rfl rfl ?_
  refine g_ifN D349 11 d_prog_29m2_8 (by decide) rfl ?_
  refine g_aloadN D349 12 d_prog_29m2_11 rfl rfl rfl ?_
  refine g_iconst D349 13 (0 : Int32) d_prog_29m2_12 rfl rfl ?_
  refine g_callIp D349 18 (hw _ w_72) (hw _ w_73) (hw _ w_74) (hw _ w_75) (hw _ w_76) (hw _ w_77) (hw _ w_78) (hw _ w_51) (by decide) ((cSCh_2_0 l Z a0 hw [] x zc fm c0 c1 h0 n0 Z0 OLD SA SH SL CS hzc SFm rfm X_x).back D349 0 (hw _ w_79) (hw _ w_8) (by decide) (by decide)) X_x.exa rfl [(.int (0 : Int32))] rfl (lenOf pd_16 rfl) rfl (Nat.le_of_eq rfl) (by decide) (by decide) d_prog_29m2_13 rfl ?_
  intro v350 T350 q350 D350
  subst q350
  show Go p e below _ (T350.setTop (mkF m 18 #[.val (.ref x), .val (.int (2 : Int32)), .unset, .unset, .unset, .unset] [(.int c0)]))
  refine g_bipush D350 20 (43 : Int32) d_prog_29m2_18 rfl rfl ?_
  suffices KJ : ∀ TJ, Wk p l e ({ frames := 5, cells := 0, slots := 0, locals := 66 } : Room) m #[.ref x] below meth c "com/example/twelfths/twelfths/input/PlainDecimal" prog_29_method_2_code 6 Z NI s TJ [] 0 0 h0 → own_sg c0 → Go p e below (NG s (fun v h L => v = some (.int (if own_sg c0 then (own_run [own_cls c1] 0 0) else (own_run [own_cls c0, own_cls c1] 0 0))) ∧ L = [] ∧ h = h0) 0 0) (TJ.setTop (mkF m 40 #[.val (.ref x), .val (.int (2 : Int32)), .unset, .unset, .unset, .unset] [(.int (1 : Int32))])) by
    by_cases y0 : c0 = (43 : Int32)
    · refine g_icmpY D350 35 d_prog_29m2_20 (teq y0).1 (by decide) (by decide) ?_
      refine g_iconst D350 36 (1 : Int32) d_prog_29m2_35 rfl rfl ?_
      refine g_goto D350 40 d_prog_29m2_36 (by decide) (by decide) ?_
      exact KJ _ D350 (Or.inl y0)
    refine g_icmpN D350 23 d_prog_29m2_20 (feq y0).1 rfl ?_
    refine g_aloadN D350 24 d_prog_29m2_23 rfl rfl rfl ?_
    refine g_iconst D350 25 (0 : Int32) d_prog_29m2_24 rfl rfl ?_
    refine g_callIp D350 30 (hw _ w_72) (hw _ w_73) (hw _ w_74) (hw _ w_75) (hw _ w_76) (hw _ w_77) (hw _ w_78) (hw _ w_51) (by decide) ((cSCh_2_0 l Z a0 hw [] x zc fm c0 c1 h0 n0 Z0 OLD SA SH SL CS hzc SFm rfm X_x).back D350 0 (hw _ w_79) (hw _ w_8) (by decide) (by decide)) X_x.exa rfl [(.int (0 : Int32))] rfl (lenOf pd_16 rfl) rfl (Nat.le_of_eq rfl) (by decide) (by decide) d_prog_29m2_25 rfl ?_
    intro v351 T351 q351 D351
    subst q351
    show Go p e below _ (T351.setTop (mkF m 30 #[.val (.ref x), .val (.int (2 : Int32)), .unset, .unset, .unset, .unset] [(.int c0)]))
    refine g_bipush D351 32 (45 : Int32) d_prog_29m2_30 rfl rfl ?_
    by_cases y1 : c0 = (45 : Int32)
    · refine g_icmpN D351 35 d_prog_29m2_32 (teq y1).2 rfl ?_
      refine g_iconst D351 36 (1 : Int32) d_prog_29m2_35 rfl rfl ?_
      refine g_goto D351 40 d_prog_29m2_36 (by decide) (by decide) ?_
      exact KJ _ D351 (Or.inr y1)
    refine g_icmpY D351 39 d_prog_29m2_32 (feq y1).2 (by decide) (by decide) ?_
    refine g_iconst D351 40 (0 : Int32) d_prog_29m2_39 rfl rfl ?_
    have sg : ¬ own_sg c0 := fun q => q.elim y0 y1
    refine g_istoreN D351 41 #[.val (.ref x), .val (.int (2 : Int32)), .val (.int (0 : Int32)), .unset, .unset, .unset] d_prog_29m2_40 rfl rfl ?_
    refine g_iconst D351 42 (0 : Int32) d_prog_29m2_41 rfl rfl ?_
    refine g_istoreN D351 43 #[.val (.ref x), .val (.int (2 : Int32)), .val (.int (0 : Int32)), .val (.int (0 : Int32)), .unset, .unset] d_prog_29m2_42 rfl rfl ?_
    refine g_iconst D351 44 (0 : Int32) d_prog_29m2_43 rfl rfl ?_
    refine g_istore D351 46 #[.val (.ref x), .val (.int (2 : Int32)), .val (.int (0 : Int32)), .val (.int (0 : Int32)), .val (.int (0 : Int32)), .unset] d_prog_29m2_44 rfl rfl ?_
    refine g_iloadN D351 47 d_prog_29m2_46 rfl rfl ?_
    refine g_iloadN D351 48 d_prog_29m2_47 rfl rfl ?_
    refine g_icmpN D351 51 d_prog_29m2_48 (by decide) rfl ?_
    refine g_aloadN D351 52 d_prog_29m2_51 rfl rfl rfl ?_
    refine g_iloadN D351 53 d_prog_29m2_52 rfl rfl ?_
    refine g_callIp D351 58 (hw _ w_72) (hw _ w_73) (hw _ w_74) (hw _ w_75) (hw _ w_76) (hw _ w_77) (hw _ w_78) (hw _ w_51) (by decide) ((cSCh_2_0 l Z a0 hw [] x zc fm c0 c1 h0 n0 Z0 OLD SA SH SL CS hzc SFm rfm X_x).back D351 0 (hw _ w_79) (hw _ w_8) (by decide) (by decide)) X_x.exa rfl [(.int (0 : Int32))] rfl (lenOf pd_16 rfl) rfl (Nat.le_of_eq rfl) (by decide) (by decide) d_prog_29m2_53 rfl ?_
    intro v352 T352 q352 D352
    subst q352
    show Go p e below _ (T352.setTop (mkF m 58 #[.val (.ref x), .val (.int (2 : Int32)), .val (.int (0 : Int32)), .val (.int (0 : Int32)), .val (.int (0 : Int32)), .unset] [(.int c0)]))
    refine g_istore D352 60 #[.val (.ref x), .val (.int (2 : Int32)), .val (.int (0 : Int32)), .val (.int (0 : Int32)), .val (.int (0 : Int32)), .val (.int c0)] d_prog_29m2_58 rfl rfl ?_
    refine g_iload D352 62 d_prog_29m2_60 rfl rfl ?_
    refine g_bipush D352 64 (48 : Int32) d_prog_29m2_62 rfl rfl ?_
    by_cases zA0 : c0 < (48 : Int32)
    · refine g_icmpY D352 79 d_prog_29m2_64 (tlt zA0).1 (by decide) (by decide) ?_
      refine g_iload D352 81 d_prog_29m2_79 rfl rfl ?_
      refine g_bipush D352 83 (46 : Int32) d_prog_29m2_81 rfl rfl ?_
      by_cases zB0 : c0 = (46 : Int32)
      · refine g_icmpN D352 86 d_prog_29m2_83 (teq zB0).2 rfl ?_
        have k0 := cls_p zA0 zB0
        refine g_iload D352 88 d_prog_29m2_86 rfl rfl ?_
        refine g_ifN D352 91 d_prog_29m2_88 (by decide) rfl ?_
        refine g_iconst D352 92 (1 : Int32) d_prog_29m2_91 rfl rfl ?_
        refine g_istore D352 94 #[.val (.ref x), .val (.int (2 : Int32)), .val (.int (0 : Int32)), .val (.int (0 : Int32)), .val (.int (1 : Int32)), .val (.int c0)] d_prog_29m2_92 rfl rfl ?_
        refine g_goto D352 99 d_prog_29m2_94 (by decide) (by decide) ?_
        refine g_iinc D352 102 (1 : Int32) #[.val (.ref x), .val (.int (2 : Int32)), .val (.int ((0 : Int32) + (1 : Int32))), .val (.int (0 : Int32)), .val (.int (1 : Int32)), .val (.int c0)] d_prog_29m2_99 rfl rfl rfl rfl ?_
        rw [show ((0 : Int32) + (1 : Int32)) = (1 : Int32) from by decide]
        refine g_goto D352 46 d_prog_29m2_102 (by decide) (by decide) ?_
        refine g_iloadN D352 47 d_prog_29m2_46 rfl rfl ?_
        refine g_iloadN D352 48 d_prog_29m2_47 rfl rfl ?_
        refine g_icmpN D352 51 d_prog_29m2_48 (by decide) rfl ?_
        refine g_aloadN D352 52 d_prog_29m2_51 rfl rfl rfl ?_
        refine g_iloadN D352 53 d_prog_29m2_52 rfl rfl ?_
        refine g_callIp D352 58 (hw _ w_72) (hw _ w_73) (hw _ w_74) (hw _ w_75) (hw _ w_76) (hw _ w_77) (hw _ w_78) (hw _ w_51) (by decide) ((cSCh_2_1 l Z a0 hw [] x zc fm c0 c1 h0 n0 Z0 OLD SA SH SL CS hzc SFm rfm X_x).back D352 0 (hw _ w_79) (hw _ w_8) (by decide) (by decide)) X_x.exa rfl [(.int (1 : Int32))] rfl (lenOf pd_16 rfl) rfl (Nat.le_of_eq rfl) (by decide) (by decide) d_prog_29m2_53 rfl ?_
        intro v353 T353 q353 D353
        subst q353
        show Go p e below _ (T353.setTop (mkF m 58 #[.val (.ref x), .val (.int (2 : Int32)), .val (.int (1 : Int32)), .val (.int (0 : Int32)), .val (.int (1 : Int32)), .val (.int c0)] [(.int c1)]))
        refine g_istore D353 60 #[.val (.ref x), .val (.int (2 : Int32)), .val (.int (1 : Int32)), .val (.int (0 : Int32)), .val (.int (1 : Int32)), .val (.int c1)] d_prog_29m2_58 rfl rfl ?_
        refine g_iload D353 62 d_prog_29m2_60 rfl rfl ?_
        refine g_bipush D353 64 (48 : Int32) d_prog_29m2_62 rfl rfl ?_
        by_cases zA1 : c1 < (48 : Int32)
        · refine g_icmpY D353 79 d_prog_29m2_64 (tlt zA1).1 (by decide) (by decide) ?_
          refine g_iload D353 81 d_prog_29m2_79 rfl rfl ?_
          refine g_bipush D353 83 (46 : Int32) d_prog_29m2_81 rfl rfl ?_
          by_cases zB1 : c1 = (46 : Int32)
          · refine g_icmpN D353 86 d_prog_29m2_83 (teq zB1).2 rfl ?_
            have k1 := cls_p zA1 zB1
            refine g_iload D353 88 d_prog_29m2_86 rfl rfl ?_
            refine g_ifY D353 97 d_prog_29m2_88 (by decide) (by decide) (by decide) ?_
            refine g_iconst D353 98 (0 : Int32) d_prog_29m2_97 rfl rfl ?_
            exact r_N D353 hret (by simp) hlk d_prog_29m2_98 ⟨congrArg (fun z => some (Value.int z)) (own_nar0.trans ((if_neg sg).trans (own_l3 k0 k1)).symm), rfl, rfl⟩ (by decide) (by decide)
          refine g_icmpY D353 97 d_prog_29m2_83 (feq zB1).2 (by decide) (by decide) ?_
          have k1 := cls_l zA1 zB1
          refine g_iconst D353 98 (0 : Int32) d_prog_29m2_97 rfl rfl ?_
          exact r_N D353 hret (by simp) hlk d_prog_29m2_98 ⟨congrArg (fun z => some (Value.int z)) (own_nar0.trans ((if_neg sg).trans (own_l4 k0 k1)).symm), rfl, rfl⟩ (by decide) (by decide)
        refine g_icmpN D353 67 d_prog_29m2_64 (flt zA1).1 rfl ?_
        refine g_iload D353 69 d_prog_29m2_67 rfl rfl ?_
        refine g_bipush D353 71 (57 : Int32) d_prog_29m2_69 rfl rfl ?_
        by_cases zC1 : (57 : Int32) < c1
        · refine g_icmpY D353 79 d_prog_29m2_71 (tlt zC1).2.2.1 (by decide) (by decide) ?_
          refine g_iload D353 81 d_prog_29m2_79 rfl rfl ?_
          refine g_bipush D353 83 (46 : Int32) d_prog_29m2_81 rfl rfl ?_
          by_cases zD1 : c1 = (46 : Int32)
          · exact (cls_no zC1 zD1).elim
          refine g_icmpY D353 97 d_prog_29m2_83 (feq zD1).2 (by decide) (by decide) ?_
          have k1 := cls_g zA1 zC1
          refine g_iconst D353 98 (0 : Int32) d_prog_29m2_97 rfl rfl ?_
          exact r_N D353 hret (by simp) hlk d_prog_29m2_98 ⟨congrArg (fun z => some (Value.int z)) (own_nar0.trans ((if_neg sg).trans (own_l4 k0 k1)).symm), rfl, rfl⟩ (by decide) (by decide)
        refine g_icmpN D353 74 d_prog_29m2_71 (flt zC1).2.2.1 rfl ?_
        have k1 := cls_d zA1 zC1
        refine g_iconst D353 75 (1 : Int32) d_prog_29m2_74 rfl rfl ?_
        refine g_istoreN D353 76 #[.val (.ref x), .val (.int (2 : Int32)), .val (.int (1 : Int32)), .val (.int (1 : Int32)), .val (.int (1 : Int32)), .val (.int c1)] d_prog_29m2_75 rfl rfl ?_
        refine g_goto D353 99 d_prog_29m2_76 (by decide) (by decide) ?_
        refine g_iinc D353 102 (1 : Int32) #[.val (.ref x), .val (.int (2 : Int32)), .val (.int ((1 : Int32) + (1 : Int32))), .val (.int (1 : Int32)), .val (.int (1 : Int32)), .val (.int c1)] d_prog_29m2_99 rfl rfl rfl rfl ?_
        rw [show ((1 : Int32) + (1 : Int32)) = (2 : Int32) from by decide]
        refine g_goto D353 46 d_prog_29m2_102 (by decide) (by decide) ?_
        refine g_iloadN D353 47 d_prog_29m2_46 rfl rfl ?_
        refine g_iloadN D353 48 d_prog_29m2_47 rfl rfl ?_
        refine g_icmpY D353 105 d_prog_29m2_48 (by decide) (by decide) (by decide) ?_
        refine g_iloadN D353 106 d_prog_29m2_105 rfl rfl ?_
        exact r_N D353 hret (by simp) hlk d_prog_29m2_106 ⟨congrArg (fun z => some (Value.int z)) (own_nar1.trans ((if_neg sg).trans (own_l5 k0 k1)).symm), rfl, rfl⟩ (by decide) (by decide)
      refine g_icmpY D352 97 d_prog_29m2_83 (feq zB0).2 (by decide) (by decide) ?_
      have k0 := cls_l zA0 zB0
      refine g_iconst D352 98 (0 : Int32) d_prog_29m2_97 rfl rfl ?_
      exact r_N D352 hret (by simp) hlk d_prog_29m2_98 ⟨congrArg (fun z => some (Value.int z)) (own_nar0.trans ((if_neg sg).trans (own_l6 k0)).symm), rfl, rfl⟩ (by decide) (by decide)
    refine g_icmpN D352 67 d_prog_29m2_64 (flt zA0).1 rfl ?_
    refine g_iload D352 69 d_prog_29m2_67 rfl rfl ?_
    refine g_bipush D352 71 (57 : Int32) d_prog_29m2_69 rfl rfl ?_
    by_cases zC0 : (57 : Int32) < c0
    · refine g_icmpY D352 79 d_prog_29m2_71 (tlt zC0).2.2.1 (by decide) (by decide) ?_
      refine g_iload D352 81 d_prog_29m2_79 rfl rfl ?_
      refine g_bipush D352 83 (46 : Int32) d_prog_29m2_81 rfl rfl ?_
      by_cases zD0 : c0 = (46 : Int32)
      · exact (cls_no zC0 zD0).elim
      refine g_icmpY D352 97 d_prog_29m2_83 (feq zD0).2 (by decide) (by decide) ?_
      have k0 := cls_g zA0 zC0
      refine g_iconst D352 98 (0 : Int32) d_prog_29m2_97 rfl rfl ?_
      exact r_N D352 hret (by simp) hlk d_prog_29m2_98 ⟨congrArg (fun z => some (Value.int z)) (own_nar0.trans ((if_neg sg).trans (own_l6 k0)).symm), rfl, rfl⟩ (by decide) (by decide)
    refine g_icmpN D352 74 d_prog_29m2_71 (flt zC0).2.2.1 rfl ?_
    have k0 := cls_d zA0 zC0
    refine g_iconst D352 75 (1 : Int32) d_prog_29m2_74 rfl rfl ?_
    refine g_istoreN D352 76 #[.val (.ref x), .val (.int (2 : Int32)), .val (.int (0 : Int32)), .val (.int (1 : Int32)), .val (.int (0 : Int32)), .val (.int c0)] d_prog_29m2_75 rfl rfl ?_
    refine g_goto D352 99 d_prog_29m2_76 (by decide) (by decide) ?_
    refine g_iinc D352 102 (1 : Int32) #[.val (.ref x), .val (.int (2 : Int32)), .val (.int ((0 : Int32) + (1 : Int32))), .val (.int (1 : Int32)), .val (.int (0 : Int32)), .val (.int c0)] d_prog_29m2_99 rfl rfl rfl rfl ?_
    rw [show ((0 : Int32) + (1 : Int32)) = (1 : Int32) from by decide]
    refine g_goto D352 46 d_prog_29m2_102 (by decide) (by decide) ?_
    refine g_iloadN D352 47 d_prog_29m2_46 rfl rfl ?_
    refine g_iloadN D352 48 d_prog_29m2_47 rfl rfl ?_
    refine g_icmpN D352 51 d_prog_29m2_48 (by decide) rfl ?_
    refine g_aloadN D352 52 d_prog_29m2_51 rfl rfl rfl ?_
    refine g_iloadN D352 53 d_prog_29m2_52 rfl rfl ?_
    refine g_callIp D352 58 (hw _ w_72) (hw _ w_73) (hw _ w_74) (hw _ w_75) (hw _ w_76) (hw _ w_77) (hw _ w_78) (hw _ w_51) (by decide) ((cSCh_2_1 l Z a0 hw [] x zc fm c0 c1 h0 n0 Z0 OLD SA SH SL CS hzc SFm rfm X_x).back D352 0 (hw _ w_79) (hw _ w_8) (by decide) (by decide)) X_x.exa rfl [(.int (1 : Int32))] rfl (lenOf pd_16 rfl) rfl (Nat.le_of_eq rfl) (by decide) (by decide) d_prog_29m2_53 rfl ?_
    intro v354 T354 q354 D354
    subst q354
    show Go p e below _ (T354.setTop (mkF m 58 #[.val (.ref x), .val (.int (2 : Int32)), .val (.int (1 : Int32)), .val (.int (1 : Int32)), .val (.int (0 : Int32)), .val (.int c0)] [(.int c1)]))
    refine g_istore D354 60 #[.val (.ref x), .val (.int (2 : Int32)), .val (.int (1 : Int32)), .val (.int (1 : Int32)), .val (.int (0 : Int32)), .val (.int c1)] d_prog_29m2_58 rfl rfl ?_
    refine g_iload D354 62 d_prog_29m2_60 rfl rfl ?_
    refine g_bipush D354 64 (48 : Int32) d_prog_29m2_62 rfl rfl ?_
    by_cases zA1 : c1 < (48 : Int32)
    · refine g_icmpY D354 79 d_prog_29m2_64 (tlt zA1).1 (by decide) (by decide) ?_
      refine g_iload D354 81 d_prog_29m2_79 rfl rfl ?_
      refine g_bipush D354 83 (46 : Int32) d_prog_29m2_81 rfl rfl ?_
      by_cases zB1 : c1 = (46 : Int32)
      · refine g_icmpN D354 86 d_prog_29m2_83 (teq zB1).2 rfl ?_
        have k1 := cls_p zA1 zB1
        refine g_iload D354 88 d_prog_29m2_86 rfl rfl ?_
        refine g_ifN D354 91 d_prog_29m2_88 (by decide) rfl ?_
        refine g_iconst D354 92 (1 : Int32) d_prog_29m2_91 rfl rfl ?_
        refine g_istore D354 94 #[.val (.ref x), .val (.int (2 : Int32)), .val (.int (1 : Int32)), .val (.int (1 : Int32)), .val (.int (1 : Int32)), .val (.int c1)] d_prog_29m2_92 rfl rfl ?_
        refine g_goto D354 99 d_prog_29m2_94 (by decide) (by decide) ?_
        refine g_iinc D354 102 (1 : Int32) #[.val (.ref x), .val (.int (2 : Int32)), .val (.int ((1 : Int32) + (1 : Int32))), .val (.int (1 : Int32)), .val (.int (1 : Int32)), .val (.int c1)] d_prog_29m2_99 rfl rfl rfl rfl ?_
        rw [show ((1 : Int32) + (1 : Int32)) = (2 : Int32) from by decide]
        refine g_goto D354 46 d_prog_29m2_102 (by decide) (by decide) ?_
        refine g_iloadN D354 47 d_prog_29m2_46 rfl rfl ?_
        refine g_iloadN D354 48 d_prog_29m2_47 rfl rfl ?_
        refine g_icmpY D354 105 d_prog_29m2_48 (by decide) (by decide) (by decide) ?_
        refine g_iloadN D354 106 d_prog_29m2_105 rfl rfl ?_
        exact r_N D354 hret (by simp) hlk d_prog_29m2_106 ⟨congrArg (fun z => some (Value.int z)) (own_nar1.trans ((if_neg sg).trans (own_l7 k0 k1)).symm), rfl, rfl⟩ (by decide) (by decide)
      refine g_icmpY D354 97 d_prog_29m2_83 (feq zB1).2 (by decide) (by decide) ?_
      have k1 := cls_l zA1 zB1
      refine g_iconst D354 98 (0 : Int32) d_prog_29m2_97 rfl rfl ?_
      exact r_N D354 hret (by simp) hlk d_prog_29m2_98 ⟨congrArg (fun z => some (Value.int z)) (own_nar0.trans ((if_neg sg).trans (own_l8 k0 k1)).symm), rfl, rfl⟩ (by decide) (by decide)
    refine g_icmpN D354 67 d_prog_29m2_64 (flt zA1).1 rfl ?_
    refine g_iload D354 69 d_prog_29m2_67 rfl rfl ?_
    refine g_bipush D354 71 (57 : Int32) d_prog_29m2_69 rfl rfl ?_
    by_cases zC1 : (57 : Int32) < c1
    · refine g_icmpY D354 79 d_prog_29m2_71 (tlt zC1).2.2.1 (by decide) (by decide) ?_
      refine g_iload D354 81 d_prog_29m2_79 rfl rfl ?_
      refine g_bipush D354 83 (46 : Int32) d_prog_29m2_81 rfl rfl ?_
      by_cases zD1 : c1 = (46 : Int32)
      · exact (cls_no zC1 zD1).elim
      refine g_icmpY D354 97 d_prog_29m2_83 (feq zD1).2 (by decide) (by decide) ?_
      have k1 := cls_g zA1 zC1
      refine g_iconst D354 98 (0 : Int32) d_prog_29m2_97 rfl rfl ?_
      exact r_N D354 hret (by simp) hlk d_prog_29m2_98 ⟨congrArg (fun z => some (Value.int z)) (own_nar0.trans ((if_neg sg).trans (own_l8 k0 k1)).symm), rfl, rfl⟩ (by decide) (by decide)
    refine g_icmpN D354 74 d_prog_29m2_71 (flt zC1).2.2.1 rfl ?_
    have k1 := cls_d zA1 zC1
    refine g_iconst D354 75 (1 : Int32) d_prog_29m2_74 rfl rfl ?_
    refine g_istoreN D354 76 #[.val (.ref x), .val (.int (2 : Int32)), .val (.int (1 : Int32)), .val (.int (1 : Int32)), .val (.int (0 : Int32)), .val (.int c1)] d_prog_29m2_75 rfl rfl ?_
    refine g_goto D354 99 d_prog_29m2_76 (by decide) (by decide) ?_
    refine g_iinc D354 102 (1 : Int32) #[.val (.ref x), .val (.int (2 : Int32)), .val (.int ((1 : Int32) + (1 : Int32))), .val (.int (1 : Int32)), .val (.int (0 : Int32)), .val (.int c1)] d_prog_29m2_99 rfl rfl rfl rfl ?_
    rw [show ((1 : Int32) + (1 : Int32)) = (2 : Int32) from by decide]
    refine g_goto D354 46 d_prog_29m2_102 (by decide) (by decide) ?_
    refine g_iloadN D354 47 d_prog_29m2_46 rfl rfl ?_
    refine g_iloadN D354 48 d_prog_29m2_47 rfl rfl ?_
    refine g_icmpY D354 105 d_prog_29m2_48 (by decide) (by decide) (by decide) ?_
    refine g_iloadN D354 106 d_prog_29m2_105 rfl rfl ?_
    exact r_N D354 hret (by simp) hlk d_prog_29m2_106 ⟨congrArg (fun z => some (Value.int z)) (own_nar1.trans ((if_neg sg).trans (own_l9 k0 k1)).symm), rfl, rfl⟩ (by decide) (by decide)
  intro TJ DJ sg
  show Go p e below _ (TJ.setTop (mkF m 40 #[.val (.ref x), .val (.int (2 : Int32)), .unset, .unset, .unset, .unset] [(.int (1 : Int32))]))
  refine g_istoreN DJ 41 #[.val (.ref x), .val (.int (2 : Int32)), .val (.int (1 : Int32)), .unset, .unset, .unset] d_prog_29m2_40 rfl rfl ?_
  refine g_iconst DJ 42 (0 : Int32) d_prog_29m2_41 rfl rfl ?_
  refine g_istoreN DJ 43 #[.val (.ref x), .val (.int (2 : Int32)), .val (.int (1 : Int32)), .val (.int (0 : Int32)), .unset, .unset] d_prog_29m2_42 rfl rfl ?_
  refine g_iconst DJ 44 (0 : Int32) d_prog_29m2_43 rfl rfl ?_
  refine g_istore DJ 46 #[.val (.ref x), .val (.int (2 : Int32)), .val (.int (1 : Int32)), .val (.int (0 : Int32)), .val (.int (0 : Int32)), .unset] d_prog_29m2_44 rfl rfl ?_
  refine g_iloadN DJ 47 d_prog_29m2_46 rfl rfl ?_
  refine g_iloadN DJ 48 d_prog_29m2_47 rfl rfl ?_
  refine g_icmpN DJ 51 d_prog_29m2_48 (by decide) rfl ?_
  refine g_aloadN DJ 52 d_prog_29m2_51 rfl rfl rfl ?_
  refine g_iloadN DJ 53 d_prog_29m2_52 rfl rfl ?_
  refine g_callIp DJ 58 (hw _ w_72) (hw _ w_73) (hw _ w_74) (hw _ w_75) (hw _ w_76) (hw _ w_77) (hw _ w_78) (hw _ w_51) (by decide) ((cSCh_2_1 l Z a0 hw [] x zc fm c0 c1 h0 n0 Z0 OLD SA SH SL CS hzc SFm rfm X_x).back DJ 0 (hw _ w_79) (hw _ w_8) (by decide) (by decide)) X_x.exa rfl [(.int (1 : Int32))] rfl (lenOf pd_16 rfl) rfl (Nat.le_of_eq rfl) (by decide) (by decide) d_prog_29m2_53 rfl ?_
  intro v355 T355 q355 D355
  subst q355
  show Go p e below _ (T355.setTop (mkF m 58 #[.val (.ref x), .val (.int (2 : Int32)), .val (.int (1 : Int32)), .val (.int (0 : Int32)), .val (.int (0 : Int32)), .unset] [(.int c1)]))
  refine g_istore D355 60 #[.val (.ref x), .val (.int (2 : Int32)), .val (.int (1 : Int32)), .val (.int (0 : Int32)), .val (.int (0 : Int32)), .val (.int c1)] d_prog_29m2_58 rfl rfl ?_
  refine g_iload D355 62 d_prog_29m2_60 rfl rfl ?_
  refine g_bipush D355 64 (48 : Int32) d_prog_29m2_62 rfl rfl ?_
  by_cases zA1 : c1 < (48 : Int32)
  · refine g_icmpY D355 79 d_prog_29m2_64 (tlt zA1).1 (by decide) (by decide) ?_
    refine g_iload D355 81 d_prog_29m2_79 rfl rfl ?_
    refine g_bipush D355 83 (46 : Int32) d_prog_29m2_81 rfl rfl ?_
    by_cases zB1 : c1 = (46 : Int32)
    · refine g_icmpN D355 86 d_prog_29m2_83 (teq zB1).2 rfl ?_
      have k1 := cls_p zA1 zB1
      refine g_iload D355 88 d_prog_29m2_86 rfl rfl ?_
      refine g_ifN D355 91 d_prog_29m2_88 (by decide) rfl ?_
      refine g_iconst D355 92 (1 : Int32) d_prog_29m2_91 rfl rfl ?_
      refine g_istore D355 94 #[.val (.ref x), .val (.int (2 : Int32)), .val (.int (1 : Int32)), .val (.int (0 : Int32)), .val (.int (1 : Int32)), .val (.int c1)] d_prog_29m2_92 rfl rfl ?_
      refine g_goto D355 99 d_prog_29m2_94 (by decide) (by decide) ?_
      refine g_iinc D355 102 (1 : Int32) #[.val (.ref x), .val (.int (2 : Int32)), .val (.int ((1 : Int32) + (1 : Int32))), .val (.int (0 : Int32)), .val (.int (1 : Int32)), .val (.int c1)] d_prog_29m2_99 rfl rfl rfl rfl ?_
      rw [show ((1 : Int32) + (1 : Int32)) = (2 : Int32) from by decide]
      refine g_goto D355 46 d_prog_29m2_102 (by decide) (by decide) ?_
      refine g_iloadN D355 47 d_prog_29m2_46 rfl rfl ?_
      refine g_iloadN D355 48 d_prog_29m2_47 rfl rfl ?_
      refine g_icmpY D355 105 d_prog_29m2_48 (by decide) (by decide) (by decide) ?_
      refine g_iloadN D355 106 d_prog_29m2_105 rfl rfl ?_
      exact r_N D355 hret (by simp) hlk d_prog_29m2_106 ⟨congrArg (fun z => some (Value.int z)) (own_nar0.trans ((if_pos sg).trans (own_l10 k1)).symm), rfl, rfl⟩ (by decide) (by decide)
    refine g_icmpY D355 97 d_prog_29m2_83 (feq zB1).2 (by decide) (by decide) ?_
    have k1 := cls_l zA1 zB1
    refine g_iconst D355 98 (0 : Int32) d_prog_29m2_97 rfl rfl ?_
    exact r_N D355 hret (by simp) hlk d_prog_29m2_98 ⟨congrArg (fun z => some (Value.int z)) (own_nar0.trans ((if_pos sg).trans (own_l11 k1)).symm), rfl, rfl⟩ (by decide) (by decide)
  refine g_icmpN D355 67 d_prog_29m2_64 (flt zA1).1 rfl ?_
  refine g_iload D355 69 d_prog_29m2_67 rfl rfl ?_
  refine g_bipush D355 71 (57 : Int32) d_prog_29m2_69 rfl rfl ?_
  by_cases zC1 : (57 : Int32) < c1
  · refine g_icmpY D355 79 d_prog_29m2_71 (tlt zC1).2.2.1 (by decide) (by decide) ?_
    refine g_iload D355 81 d_prog_29m2_79 rfl rfl ?_
    refine g_bipush D355 83 (46 : Int32) d_prog_29m2_81 rfl rfl ?_
    by_cases zD1 : c1 = (46 : Int32)
    · exact (cls_no zC1 zD1).elim
    refine g_icmpY D355 97 d_prog_29m2_83 (feq zD1).2 (by decide) (by decide) ?_
    have k1 := cls_g zA1 zC1
    refine g_iconst D355 98 (0 : Int32) d_prog_29m2_97 rfl rfl ?_
    exact r_N D355 hret (by simp) hlk d_prog_29m2_98 ⟨congrArg (fun z => some (Value.int z)) (own_nar0.trans ((if_pos sg).trans (own_l11 k1)).symm), rfl, rfl⟩ (by decide) (by decide)
  refine g_icmpN D355 74 d_prog_29m2_71 (flt zC1).2.2.1 rfl ?_
  have k1 := cls_d zA1 zC1
  refine g_iconst D355 75 (1 : Int32) d_prog_29m2_74 rfl rfl ?_
  refine g_istoreN D355 76 #[.val (.ref x), .val (.int (2 : Int32)), .val (.int (1 : Int32)), .val (.int (1 : Int32)), .val (.int (0 : Int32)), .val (.int c1)] d_prog_29m2_75 rfl rfl ?_
  refine g_goto D355 99 d_prog_29m2_76 (by decide) (by decide) ?_
  refine g_iinc D355 102 (1 : Int32) #[.val (.ref x), .val (.int (2 : Int32)), .val (.int ((1 : Int32) + (1 : Int32))), .val (.int (1 : Int32)), .val (.int (0 : Int32)), .val (.int c1)] d_prog_29m2_99 rfl rfl rfl rfl ?_
  rw [show ((1 : Int32) + (1 : Int32)) = (2 : Int32) from by decide]
  refine g_goto D355 46 d_prog_29m2_102 (by decide) (by decide) ?_
  refine g_iloadN D355 47 d_prog_29m2_46 rfl rfl ?_
  refine g_iloadN D355 48 d_prog_29m2_47 rfl rfl ?_
  refine g_icmpY D355 105 d_prog_29m2_48 (by decide) (by decide) (by decide) ?_
  refine g_iloadN D355 106 d_prog_29m2_105 rfl rfl ?_
  exact r_N D355 hret (by simp) hlk d_prog_29m2_106 ⟨congrArg (fun z => some (Value.int z)) (own_nar1.trans ((if_pos sg).trans (own_l12 k1)).symm), rfl, rfl⟩ (by decide) (by decide)
theorem cPl_3 (l : Launch) (Z : State) (a0 : Array Value) (hw : tHW Z a0) (ws : List Jvm.Cond) (x : Addr) (zc : Int32) (fm : Value) (c0 c1 c2 : Int32) (h0 : Heap) (n0 : Nat) (Z0 : n0 ≤ h0.size) (OLD : Old Z n0 h0) (SA : tSA Z) (SH : tSH Z) (SL : tSL Z) (CS : tCS Z zc) (hzc : ¬ zc = 0) (SFm : tSF Z fm) (rfm : fm.isRef = true) (X_x : TS Z h0 x [c0, c1, c2]) :
    Con l (⟨"com/example/twelfths/twelfths/input/PlainDecimal", "isPlain", "(Ljava/lang/CharSequence;)Z"⟩ : MethodName) prog_29_method_2_code 6 (some .boolean) ws ({ frames := 5, cells := 0, slots := 0, locals := 66 } : Room) Z #[(.ref x)] h0 (fun v h L => v = some (.int (if own_sg c0 then (own_run [own_cls c1, own_cls c2] 0 0) else (own_run [own_cls c0, own_cls c1, own_cls c2] 0 0))) ∧ L = [] ∧ h = h0) 0 0 := by
  refine enter (plainFor_of_name pn_5) ?_
  intro p e s m below meth c s₁ hnm hret hlk D0
  rw [ef_cPl_3 m x]
  refine g_aloadN D0 1 d_prog_29m2_0 rfl rfl rfl ?_
  refine g_callIp D0 6 (hw _ w_44) (hw _ w_45) (hw _ w_46) (hw _ w_47) (hw _ w_48) (hw _ w_49) (hw _ w_50) (hw _ w_51) (by decide) (TS.lenB 0 D0 hw X_x (CS.ext OLD.2) hzc (by decide) (by decide)) X_x.exa rfl [] rfl (lenOf pd_15 rfl) rfl (Nat.le_of_eq rfl) (by decide) (by decide) d_prog_29m2_1 rfl ?_
  intro v356 T356 q356 D356
  subst q356
  show Go p e below _ (T356.setTop (mkF m 6 #[.val (.ref x), .unset, .unset, .unset, .unset, .unset] [(.int (3 : Int32))]))
  refine g_istoreN D356 7 #[.val (.ref x), .val (.int (3 : Int32)), .unset, .unset, .unset, .unset] d_prog_29m2_6 rfl rfl ?_
  refine g_iloadN D356 8 d_prog_29m2_7 rfl rfl ?_
  refine g_ifN D356 11 d_prog_29m2_8 (by decide) rfl ?_
  refine g_aloadN D356 12 d_prog_29m2_11 rfl rfl rfl ?_
  refine g_iconst D356 13 (0 : Int32) d_prog_29m2_12 rfl rfl ?_
  refine g_callIp D356 18 (hw _ w_72) (hw _ w_73) (hw _ w_74) (hw _ w_75) (hw _ w_76) (hw _ w_77) (hw _ w_78) (hw _ w_51) (by decide) ((cSCh_3_0 l Z a0 hw [] x zc fm c0 c1 c2 h0 n0 Z0 OLD SA SH SL CS hzc SFm rfm X_x).back D356 0 (hw _ w_79) (hw _ w_8) (by decide) (by decide)) X_x.exa rfl [(.int (0 : Int32))] rfl (lenOf pd_16 rfl) rfl (Nat.le_of_eq rfl) (by decide) (by decide) d_prog_29m2_13 rfl ?_
  intro v357 T357 q357 D357
  subst q357
  show Go p e below _ (T357.setTop (mkF m 18 #[.val (.ref x), .val (.int (3 : Int32)), .unset, .unset, .unset, .unset] [(.int c0)]))
  refine g_bipush D357 20 (43 : Int32) d_prog_29m2_18 rfl rfl ?_
  suffices KJ : ∀ TJ, Wk p l e ({ frames := 5, cells := 0, slots := 0, locals := 66 } : Room) m #[.ref x] below meth c "com/example/twelfths/twelfths/input/PlainDecimal" prog_29_method_2_code 6 Z NI s TJ [] 0 0 h0 → own_sg c0 → Go p e below (NG s (fun v h L => v = some (.int (if own_sg c0 then (own_run [own_cls c1, own_cls c2] 0 0) else (own_run [own_cls c0, own_cls c1, own_cls c2] 0 0))) ∧ L = [] ∧ h = h0) 0 0) (TJ.setTop (mkF m 40 #[.val (.ref x), .val (.int (3 : Int32)), .unset, .unset, .unset, .unset] [(.int (1 : Int32))])) by
    by_cases y0 : c0 = (43 : Int32)
    · refine g_icmpY D357 35 d_prog_29m2_20 (teq y0).1 (by decide) (by decide) ?_
      refine g_iconst D357 36 (1 : Int32) d_prog_29m2_35 rfl rfl ?_
      refine g_goto D357 40 d_prog_29m2_36 (by decide) (by decide) ?_
      exact KJ _ D357 (Or.inl y0)
    refine g_icmpN D357 23 d_prog_29m2_20 (feq y0).1 rfl ?_
    refine g_aloadN D357 24 d_prog_29m2_23 rfl rfl rfl ?_
    refine g_iconst D357 25 (0 : Int32) d_prog_29m2_24 rfl rfl ?_
    refine g_callIp D357 30 (hw _ w_72) (hw _ w_73) (hw _ w_74) (hw _ w_75) (hw _ w_76) (hw _ w_77) (hw _ w_78) (hw _ w_51) (by decide) ((cSCh_3_0 l Z a0 hw [] x zc fm c0 c1 c2 h0 n0 Z0 OLD SA SH SL CS hzc SFm rfm X_x).back D357 0 (hw _ w_79) (hw _ w_8) (by decide) (by decide)) X_x.exa rfl [(.int (0 : Int32))] rfl (lenOf pd_16 rfl) rfl (Nat.le_of_eq rfl) (by decide) (by decide) d_prog_29m2_25 rfl ?_
    intro v358 T358 q358 D358
    subst q358
    show Go p e below _ (T358.setTop (mkF m 30 #[.val (.ref x), .val (.int (3 : Int32)), .unset, .unset, .unset, .unset] [(.int c0)]))
    refine g_bipush D358 32 (45 : Int32) d_prog_29m2_30 rfl rfl ?_
    by_cases y1 : c0 = (45 : Int32)
    · refine g_icmpN D358 35 d_prog_29m2_32 (teq y1).2 rfl ?_
      refine g_iconst D358 36 (1 : Int32) d_prog_29m2_35 rfl rfl ?_
      refine g_goto D358 40 d_prog_29m2_36 (by decide) (by decide) ?_
      exact KJ _ D358 (Or.inr y1)
    refine g_icmpY D358 39 d_prog_29m2_32 (feq y1).2 (by decide) (by decide) ?_
    refine g_iconst D358 40 (0 : Int32) d_prog_29m2_39 rfl rfl ?_
    have sg : ¬ own_sg c0 := fun q => q.elim y0 y1
    refine g_istoreN D358 41 #[.val (.ref x), .val (.int (3 : Int32)), .val (.int (0 : Int32)), .unset, .unset, .unset] d_prog_29m2_40 rfl rfl ?_
    refine g_iconst D358 42 (0 : Int32) d_prog_29m2_41 rfl rfl ?_
    refine g_istoreN D358 43 #[.val (.ref x), .val (.int (3 : Int32)), .val (.int (0 : Int32)), .val (.int (0 : Int32)), .unset, .unset] d_prog_29m2_42 rfl rfl ?_
    refine g_iconst D358 44 (0 : Int32) d_prog_29m2_43 rfl rfl ?_
    refine g_istore D358 46 #[.val (.ref x), .val (.int (3 : Int32)), .val (.int (0 : Int32)), .val (.int (0 : Int32)), .val (.int (0 : Int32)), .unset] d_prog_29m2_44 rfl rfl ?_
    refine g_iloadN D358 47 d_prog_29m2_46 rfl rfl ?_
    refine g_iloadN D358 48 d_prog_29m2_47 rfl rfl ?_
    refine g_icmpN D358 51 d_prog_29m2_48 (by decide) rfl ?_
    refine g_aloadN D358 52 d_prog_29m2_51 rfl rfl rfl ?_
    refine g_iloadN D358 53 d_prog_29m2_52 rfl rfl ?_
    refine g_callIp D358 58 (hw _ w_72) (hw _ w_73) (hw _ w_74) (hw _ w_75) (hw _ w_76) (hw _ w_77) (hw _ w_78) (hw _ w_51) (by decide) ((cSCh_3_0 l Z a0 hw [] x zc fm c0 c1 c2 h0 n0 Z0 OLD SA SH SL CS hzc SFm rfm X_x).back D358 0 (hw _ w_79) (hw _ w_8) (by decide) (by decide)) X_x.exa rfl [(.int (0 : Int32))] rfl (lenOf pd_16 rfl) rfl (Nat.le_of_eq rfl) (by decide) (by decide) d_prog_29m2_53 rfl ?_
    intro v359 T359 q359 D359
    subst q359
    show Go p e below _ (T359.setTop (mkF m 58 #[.val (.ref x), .val (.int (3 : Int32)), .val (.int (0 : Int32)), .val (.int (0 : Int32)), .val (.int (0 : Int32)), .unset] [(.int c0)]))
    refine g_istore D359 60 #[.val (.ref x), .val (.int (3 : Int32)), .val (.int (0 : Int32)), .val (.int (0 : Int32)), .val (.int (0 : Int32)), .val (.int c0)] d_prog_29m2_58 rfl rfl ?_
    refine g_iload D359 62 d_prog_29m2_60 rfl rfl ?_
    refine g_bipush D359 64 (48 : Int32) d_prog_29m2_62 rfl rfl ?_
    by_cases zA0 : c0 < (48 : Int32)
    · refine g_icmpY D359 79 d_prog_29m2_64 (tlt zA0).1 (by decide) (by decide) ?_
      refine g_iload D359 81 d_prog_29m2_79 rfl rfl ?_
      refine g_bipush D359 83 (46 : Int32) d_prog_29m2_81 rfl rfl ?_
      by_cases zB0 : c0 = (46 : Int32)
      · refine g_icmpN D359 86 d_prog_29m2_83 (teq zB0).2 rfl ?_
        have k0 := cls_p zA0 zB0
        refine g_iload D359 88 d_prog_29m2_86 rfl rfl ?_
        refine g_ifN D359 91 d_prog_29m2_88 (by decide) rfl ?_
        refine g_iconst D359 92 (1 : Int32) d_prog_29m2_91 rfl rfl ?_
        refine g_istore D359 94 #[.val (.ref x), .val (.int (3 : Int32)), .val (.int (0 : Int32)), .val (.int (0 : Int32)), .val (.int (1 : Int32)), .val (.int c0)] d_prog_29m2_92 rfl rfl ?_
        refine g_goto D359 99 d_prog_29m2_94 (by decide) (by decide) ?_
        refine g_iinc D359 102 (1 : Int32) #[.val (.ref x), .val (.int (3 : Int32)), .val (.int ((0 : Int32) + (1 : Int32))), .val (.int (0 : Int32)), .val (.int (1 : Int32)), .val (.int c0)] d_prog_29m2_99 rfl rfl rfl rfl ?_
        rw [show ((0 : Int32) + (1 : Int32)) = (1 : Int32) from by decide]
        refine g_goto D359 46 d_prog_29m2_102 (by decide) (by decide) ?_
        refine g_iloadN D359 47 d_prog_29m2_46 rfl rfl ?_
        refine g_iloadN D359 48 d_prog_29m2_47 rfl rfl ?_
        refine g_icmpN D359 51 d_prog_29m2_48 (by decide) rfl ?_
        refine g_aloadN D359 52 d_prog_29m2_51 rfl rfl rfl ?_
        refine g_iloadN D359 53 d_prog_29m2_52 rfl rfl ?_
        refine g_callIp D359 58 (hw _ w_72) (hw _ w_73) (hw _ w_74) (hw _ w_75) (hw _ w_76) (hw _ w_77) (hw _ w_78) (hw _ w_51) (by decide) ((cSCh_3_1 l Z a0 hw [] x zc fm c0 c1 c2 h0 n0 Z0 OLD SA SH SL CS hzc SFm rfm X_x).back D359 0 (hw _ w_79) (hw _ w_8) (by decide) (by decide)) X_x.exa rfl [(.int (1 : Int32))] rfl (lenOf pd_16 rfl) rfl (Nat.le_of_eq rfl) (by decide) (by decide) d_prog_29m2_53 rfl ?_
        intro v360 T360 q360 D360
        subst q360
        show Go p e below _ (T360.setTop (mkF m 58 #[.val (.ref x), .val (.int (3 : Int32)), .val (.int (1 : Int32)), .val (.int (0 : Int32)), .val (.int (1 : Int32)), .val (.int c0)] [(.int c1)]))
        refine g_istore D360 60 #[.val (.ref x), .val (.int (3 : Int32)), .val (.int (1 : Int32)), .val (.int (0 : Int32)), .val (.int (1 : Int32)), .val (.int c1)] d_prog_29m2_58 rfl rfl ?_
        refine g_iload D360 62 d_prog_29m2_60 rfl rfl ?_
        refine g_bipush D360 64 (48 : Int32) d_prog_29m2_62 rfl rfl ?_
        by_cases zA1 : c1 < (48 : Int32)
        · refine g_icmpY D360 79 d_prog_29m2_64 (tlt zA1).1 (by decide) (by decide) ?_
          refine g_iload D360 81 d_prog_29m2_79 rfl rfl ?_
          refine g_bipush D360 83 (46 : Int32) d_prog_29m2_81 rfl rfl ?_
          by_cases zB1 : c1 = (46 : Int32)
          · refine g_icmpN D360 86 d_prog_29m2_83 (teq zB1).2 rfl ?_
            have k1 := cls_p zA1 zB1
            refine g_iload D360 88 d_prog_29m2_86 rfl rfl ?_
            refine g_ifY D360 97 d_prog_29m2_88 (by decide) (by decide) (by decide) ?_
            refine g_iconst D360 98 (0 : Int32) d_prog_29m2_97 rfl rfl ?_
            exact r_N D360 hret (by simp) hlk d_prog_29m2_98 ⟨congrArg (fun z => some (Value.int z)) (own_nar0.trans ((if_neg sg).trans (own_l13 k0 k1)).symm), rfl, rfl⟩ (by decide) (by decide)
          refine g_icmpY D360 97 d_prog_29m2_83 (feq zB1).2 (by decide) (by decide) ?_
          have k1 := cls_l zA1 zB1
          refine g_iconst D360 98 (0 : Int32) d_prog_29m2_97 rfl rfl ?_
          exact r_N D360 hret (by simp) hlk d_prog_29m2_98 ⟨congrArg (fun z => some (Value.int z)) (own_nar0.trans ((if_neg sg).trans (own_l14 k0 k1)).symm), rfl, rfl⟩ (by decide) (by decide)
        refine g_icmpN D360 67 d_prog_29m2_64 (flt zA1).1 rfl ?_
        refine g_iload D360 69 d_prog_29m2_67 rfl rfl ?_
        refine g_bipush D360 71 (57 : Int32) d_prog_29m2_69 rfl rfl ?_
        by_cases zC1 : (57 : Int32) < c1
        · refine g_icmpY D360 79 d_prog_29m2_71 (tlt zC1).2.2.1 (by decide) (by decide) ?_
          refine g_iload D360 81 d_prog_29m2_79 rfl rfl ?_
          refine g_bipush D360 83 (46 : Int32) d_prog_29m2_81 rfl rfl ?_
          by_cases zD1 : c1 = (46 : Int32)
          · exact (cls_no zC1 zD1).elim
          refine g_icmpY D360 97 d_prog_29m2_83 (feq zD1).2 (by decide) (by decide) ?_
          have k1 := cls_g zA1 zC1
          refine g_iconst D360 98 (0 : Int32) d_prog_29m2_97 rfl rfl ?_
          exact r_N D360 hret (by simp) hlk d_prog_29m2_98 ⟨congrArg (fun z => some (Value.int z)) (own_nar0.trans ((if_neg sg).trans (own_l14 k0 k1)).symm), rfl, rfl⟩ (by decide) (by decide)
        refine g_icmpN D360 74 d_prog_29m2_71 (flt zC1).2.2.1 rfl ?_
        have k1 := cls_d zA1 zC1
        refine g_iconst D360 75 (1 : Int32) d_prog_29m2_74 rfl rfl ?_
        refine g_istoreN D360 76 #[.val (.ref x), .val (.int (3 : Int32)), .val (.int (1 : Int32)), .val (.int (1 : Int32)), .val (.int (1 : Int32)), .val (.int c1)] d_prog_29m2_75 rfl rfl ?_
        refine g_goto D360 99 d_prog_29m2_76 (by decide) (by decide) ?_
        refine g_iinc D360 102 (1 : Int32) #[.val (.ref x), .val (.int (3 : Int32)), .val (.int ((1 : Int32) + (1 : Int32))), .val (.int (1 : Int32)), .val (.int (1 : Int32)), .val (.int c1)] d_prog_29m2_99 rfl rfl rfl rfl ?_
        rw [show ((1 : Int32) + (1 : Int32)) = (2 : Int32) from by decide]
        refine g_goto D360 46 d_prog_29m2_102 (by decide) (by decide) ?_
        refine g_iloadN D360 47 d_prog_29m2_46 rfl rfl ?_
        refine g_iloadN D360 48 d_prog_29m2_47 rfl rfl ?_
        refine g_icmpN D360 51 d_prog_29m2_48 (by decide) rfl ?_
        refine g_aloadN D360 52 d_prog_29m2_51 rfl rfl rfl ?_
        refine g_iloadN D360 53 d_prog_29m2_52 rfl rfl ?_
        refine g_callIp D360 58 (hw _ w_72) (hw _ w_73) (hw _ w_74) (hw _ w_75) (hw _ w_76) (hw _ w_77) (hw _ w_78) (hw _ w_51) (by decide) ((cSCh_3_2 l Z a0 hw [] x zc fm c0 c1 c2 h0 n0 Z0 OLD SA SH SL CS hzc SFm rfm X_x).back D360 0 (hw _ w_79) (hw _ w_8) (by decide) (by decide)) X_x.exa rfl [(.int (2 : Int32))] rfl (lenOf pd_16 rfl) rfl (Nat.le_of_eq rfl) (by decide) (by decide) d_prog_29m2_53 rfl ?_
        intro v361 T361 q361 D361
        subst q361
        show Go p e below _ (T361.setTop (mkF m 58 #[.val (.ref x), .val (.int (3 : Int32)), .val (.int (2 : Int32)), .val (.int (1 : Int32)), .val (.int (1 : Int32)), .val (.int c1)] [(.int c2)]))
        refine g_istore D361 60 #[.val (.ref x), .val (.int (3 : Int32)), .val (.int (2 : Int32)), .val (.int (1 : Int32)), .val (.int (1 : Int32)), .val (.int c2)] d_prog_29m2_58 rfl rfl ?_
        refine g_iload D361 62 d_prog_29m2_60 rfl rfl ?_
        refine g_bipush D361 64 (48 : Int32) d_prog_29m2_62 rfl rfl ?_
        by_cases zA2 : c2 < (48 : Int32)
        · refine g_icmpY D361 79 d_prog_29m2_64 (tlt zA2).1 (by decide) (by decide) ?_
          refine g_iload D361 81 d_prog_29m2_79 rfl rfl ?_
          refine g_bipush D361 83 (46 : Int32) d_prog_29m2_81 rfl rfl ?_
          by_cases zB2 : c2 = (46 : Int32)
          · refine g_icmpN D361 86 d_prog_29m2_83 (teq zB2).2 rfl ?_
            have k2 := cls_p zA2 zB2
            refine g_iload D361 88 d_prog_29m2_86 rfl rfl ?_
            refine g_ifY D361 97 d_prog_29m2_88 (by decide) (by decide) (by decide) ?_
            refine g_iconst D361 98 (0 : Int32) d_prog_29m2_97 rfl rfl ?_
            exact r_N D361 hret (by simp) hlk d_prog_29m2_98 ⟨congrArg (fun z => some (Value.int z)) (own_nar0.trans ((if_neg sg).trans (own_l15 k0 k1 k2)).symm), rfl, rfl⟩ (by decide) (by decide)
          refine g_icmpY D361 97 d_prog_29m2_83 (feq zB2).2 (by decide) (by decide) ?_
          have k2 := cls_l zA2 zB2
          refine g_iconst D361 98 (0 : Int32) d_prog_29m2_97 rfl rfl ?_
          exact r_N D361 hret (by simp) hlk d_prog_29m2_98 ⟨congrArg (fun z => some (Value.int z)) (own_nar0.trans ((if_neg sg).trans (own_l16 k0 k1 k2)).symm), rfl, rfl⟩ (by decide) (by decide)
        refine g_icmpN D361 67 d_prog_29m2_64 (flt zA2).1 rfl ?_
        refine g_iload D361 69 d_prog_29m2_67 rfl rfl ?_
        refine g_bipush D361 71 (57 : Int32) d_prog_29m2_69 rfl rfl ?_
        by_cases zC2 : (57 : Int32) < c2
        · refine g_icmpY D361 79 d_prog_29m2_71 (tlt zC2).2.2.1 (by decide) (by decide) ?_
          refine g_iload D361 81 d_prog_29m2_79 rfl rfl ?_
          refine g_bipush D361 83 (46 : Int32) d_prog_29m2_81 rfl rfl ?_
          by_cases zD2 : c2 = (46 : Int32)
          · exact (cls_no zC2 zD2).elim
          refine g_icmpY D361 97 d_prog_29m2_83 (feq zD2).2 (by decide) (by decide) ?_
          have k2 := cls_g zA2 zC2
          refine g_iconst D361 98 (0 : Int32) d_prog_29m2_97 rfl rfl ?_
          exact r_N D361 hret (by simp) hlk d_prog_29m2_98 ⟨congrArg (fun z => some (Value.int z)) (own_nar0.trans ((if_neg sg).trans (own_l16 k0 k1 k2)).symm), rfl, rfl⟩ (by decide) (by decide)
        refine g_icmpN D361 74 d_prog_29m2_71 (flt zC2).2.2.1 rfl ?_
        have k2 := cls_d zA2 zC2
        refine g_iconst D361 75 (1 : Int32) d_prog_29m2_74 rfl rfl ?_
        refine g_istoreN D361 76 #[.val (.ref x), .val (.int (3 : Int32)), .val (.int (2 : Int32)), .val (.int (1 : Int32)), .val (.int (1 : Int32)), .val (.int c2)] d_prog_29m2_75 rfl rfl ?_
        refine g_goto D361 99 d_prog_29m2_76 (by decide) (by decide) ?_
        refine g_iinc D361 102 (1 : Int32) #[.val (.ref x), .val (.int (3 : Int32)), .val (.int ((2 : Int32) + (1 : Int32))), .val (.int (1 : Int32)), .val (.int (1 : Int32)), .val (.int c2)] d_prog_29m2_99 rfl rfl rfl rfl ?_
        rw [show ((2 : Int32) + (1 : Int32)) = (3 : Int32) from by decide]
        refine g_goto D361 46 d_prog_29m2_102 (by decide) (by decide) ?_
        refine g_iloadN D361 47 d_prog_29m2_46 rfl rfl ?_
        refine g_iloadN D361 48 d_prog_29m2_47 rfl rfl ?_
        refine g_icmpY D361 105 d_prog_29m2_48 (by decide) (by decide) (by decide) ?_
        refine g_iloadN D361 106 d_prog_29m2_105 rfl rfl ?_
        exact r_N D361 hret (by simp) hlk d_prog_29m2_106 ⟨congrArg (fun z => some (Value.int z)) (own_nar1.trans ((if_neg sg).trans (own_l17 k0 k1 k2)).symm), rfl, rfl⟩ (by decide) (by decide)
      refine g_icmpY D359 97 d_prog_29m2_83 (feq zB0).2 (by decide) (by decide) ?_
      have k0 := cls_l zA0 zB0
      refine g_iconst D359 98 (0 : Int32) d_prog_29m2_97 rfl rfl ?_
      exact r_N D359 hret (by simp) hlk d_prog_29m2_98 ⟨congrArg (fun z => some (Value.int z)) (own_nar0.trans ((if_neg sg).trans (own_l18 k0)).symm), rfl, rfl⟩ (by decide) (by decide)
    refine g_icmpN D359 67 d_prog_29m2_64 (flt zA0).1 rfl ?_
    refine g_iload D359 69 d_prog_29m2_67 rfl rfl ?_
    refine g_bipush D359 71 (57 : Int32) d_prog_29m2_69 rfl rfl ?_
    by_cases zC0 : (57 : Int32) < c0
    · refine g_icmpY D359 79 d_prog_29m2_71 (tlt zC0).2.2.1 (by decide) (by decide) ?_
      refine g_iload D359 81 d_prog_29m2_79 rfl rfl ?_
      refine g_bipush D359 83 (46 : Int32) d_prog_29m2_81 rfl rfl ?_
      by_cases zD0 : c0 = (46 : Int32)
      · exact (cls_no zC0 zD0).elim
      refine g_icmpY D359 97 d_prog_29m2_83 (feq zD0).2 (by decide) (by decide) ?_
      have k0 := cls_g zA0 zC0
      refine g_iconst D359 98 (0 : Int32) d_prog_29m2_97 rfl rfl ?_
      exact r_N D359 hret (by simp) hlk d_prog_29m2_98 ⟨congrArg (fun z => some (Value.int z)) (own_nar0.trans ((if_neg sg).trans (own_l18 k0)).symm), rfl, rfl⟩ (by decide) (by decide)
    refine g_icmpN D359 74 d_prog_29m2_71 (flt zC0).2.2.1 rfl ?_
    have k0 := cls_d zA0 zC0
    refine g_iconst D359 75 (1 : Int32) d_prog_29m2_74 rfl rfl ?_
    refine g_istoreN D359 76 #[.val (.ref x), .val (.int (3 : Int32)), .val (.int (0 : Int32)), .val (.int (1 : Int32)), .val (.int (0 : Int32)), .val (.int c0)] d_prog_29m2_75 rfl rfl ?_
    refine g_goto D359 99 d_prog_29m2_76 (by decide) (by decide) ?_
    refine g_iinc D359 102 (1 : Int32) #[.val (.ref x), .val (.int (3 : Int32)), .val (.int ((0 : Int32) + (1 : Int32))), .val (.int (1 : Int32)), .val (.int (0 : Int32)), .val (.int c0)] d_prog_29m2_99 rfl rfl rfl rfl ?_
    rw [show ((0 : Int32) + (1 : Int32)) = (1 : Int32) from by decide]
    refine g_goto D359 46 d_prog_29m2_102 (by decide) (by decide) ?_
    refine g_iloadN D359 47 d_prog_29m2_46 rfl rfl ?_
    refine g_iloadN D359 48 d_prog_29m2_47 rfl rfl ?_
    refine g_icmpN D359 51 d_prog_29m2_48 (by decide) rfl ?_
    refine g_aloadN D359 52 d_prog_29m2_51 rfl rfl rfl ?_
    refine g_iloadN D359 53 d_prog_29m2_52 rfl rfl ?_
    refine g_callIp D359 58 (hw _ w_72) (hw _ w_73) (hw _ w_74) (hw _ w_75) (hw _ w_76) (hw _ w_77) (hw _ w_78) (hw _ w_51) (by decide) ((cSCh_3_1 l Z a0 hw [] x zc fm c0 c1 c2 h0 n0 Z0 OLD SA SH SL CS hzc SFm rfm X_x).back D359 0 (hw _ w_79) (hw _ w_8) (by decide) (by decide)) X_x.exa rfl [(.int (1 : Int32))] rfl (lenOf pd_16 rfl) rfl (Nat.le_of_eq rfl) (by decide) (by decide) d_prog_29m2_53 rfl ?_
    intro v362 T362 q362 D362
    subst q362
    show Go p e below _ (T362.setTop (mkF m 58 #[.val (.ref x), .val (.int (3 : Int32)), .val (.int (1 : Int32)), .val (.int (1 : Int32)), .val (.int (0 : Int32)), .val (.int c0)] [(.int c1)]))
    refine g_istore D362 60 #[.val (.ref x), .val (.int (3 : Int32)), .val (.int (1 : Int32)), .val (.int (1 : Int32)), .val (.int (0 : Int32)), .val (.int c1)] d_prog_29m2_58 rfl rfl ?_
    refine g_iload D362 62 d_prog_29m2_60 rfl rfl ?_
    refine g_bipush D362 64 (48 : Int32) d_prog_29m2_62 rfl rfl ?_
    by_cases zA1 : c1 < (48 : Int32)
    · refine g_icmpY D362 79 d_prog_29m2_64 (tlt zA1).1 (by decide) (by decide) ?_
      refine g_iload D362 81 d_prog_29m2_79 rfl rfl ?_
      refine g_bipush D362 83 (46 : Int32) d_prog_29m2_81 rfl rfl ?_
      by_cases zB1 : c1 = (46 : Int32)
      · refine g_icmpN D362 86 d_prog_29m2_83 (teq zB1).2 rfl ?_
        have k1 := cls_p zA1 zB1
        refine g_iload D362 88 d_prog_29m2_86 rfl rfl ?_
        refine g_ifN D362 91 d_prog_29m2_88 (by decide) rfl ?_
        refine g_iconst D362 92 (1 : Int32) d_prog_29m2_91 rfl rfl ?_
        refine g_istore D362 94 #[.val (.ref x), .val (.int (3 : Int32)), .val (.int (1 : Int32)), .val (.int (1 : Int32)), .val (.int (1 : Int32)), .val (.int c1)] d_prog_29m2_92 rfl rfl ?_
        refine g_goto D362 99 d_prog_29m2_94 (by decide) (by decide) ?_
        refine g_iinc D362 102 (1 : Int32) #[.val (.ref x), .val (.int (3 : Int32)), .val (.int ((1 : Int32) + (1 : Int32))), .val (.int (1 : Int32)), .val (.int (1 : Int32)), .val (.int c1)] d_prog_29m2_99 rfl rfl rfl rfl ?_
        rw [show ((1 : Int32) + (1 : Int32)) = (2 : Int32) from by decide]
        refine g_goto D362 46 d_prog_29m2_102 (by decide) (by decide) ?_
        refine g_iloadN D362 47 d_prog_29m2_46 rfl rfl ?_
        refine g_iloadN D362 48 d_prog_29m2_47 rfl rfl ?_
        refine g_icmpN D362 51 d_prog_29m2_48 (by decide) rfl ?_
        refine g_aloadN D362 52 d_prog_29m2_51 rfl rfl rfl ?_
        refine g_iloadN D362 53 d_prog_29m2_52 rfl rfl ?_
        refine g_callIp D362 58 (hw _ w_72) (hw _ w_73) (hw _ w_74) (hw _ w_75) (hw _ w_76) (hw _ w_77) (hw _ w_78) (hw _ w_51) (by decide) ((cSCh_3_2 l Z a0 hw [] x zc fm c0 c1 c2 h0 n0 Z0 OLD SA SH SL CS hzc SFm rfm X_x).back D362 0 (hw _ w_79) (hw _ w_8) (by decide) (by decide)) X_x.exa rfl [(.int (2 : Int32))] rfl (lenOf pd_16 rfl) rfl (Nat.le_of_eq rfl) (by decide) (by decide) d_prog_29m2_53 rfl ?_
        intro v363 T363 q363 D363
        subst q363
        show Go p e below _ (T363.setTop (mkF m 58 #[.val (.ref x), .val (.int (3 : Int32)), .val (.int (2 : Int32)), .val (.int (1 : Int32)), .val (.int (1 : Int32)), .val (.int c1)] [(.int c2)]))
        refine g_istore D363 60 #[.val (.ref x), .val (.int (3 : Int32)), .val (.int (2 : Int32)), .val (.int (1 : Int32)), .val (.int (1 : Int32)), .val (.int c2)] d_prog_29m2_58 rfl rfl ?_
        refine g_iload D363 62 d_prog_29m2_60 rfl rfl ?_
        refine g_bipush D363 64 (48 : Int32) d_prog_29m2_62 rfl rfl ?_
        by_cases zA2 : c2 < (48 : Int32)
        · refine g_icmpY D363 79 d_prog_29m2_64 (tlt zA2).1 (by decide) (by decide) ?_
          refine g_iload D363 81 d_prog_29m2_79 rfl rfl ?_
          refine g_bipush D363 83 (46 : Int32) d_prog_29m2_81 rfl rfl ?_
          by_cases zB2 : c2 = (46 : Int32)
          · refine g_icmpN D363 86 d_prog_29m2_83 (teq zB2).2 rfl ?_
            have k2 := cls_p zA2 zB2
            refine g_iload D363 88 d_prog_29m2_86 rfl rfl ?_
            refine g_ifY D363 97 d_prog_29m2_88 (by decide) (by decide) (by decide) ?_
            refine g_iconst D363 98 (0 : Int32) d_prog_29m2_97 rfl rfl ?_
            exact r_N D363 hret (by simp) hlk d_prog_29m2_98 ⟨congrArg (fun z => some (Value.int z)) (own_nar0.trans ((if_neg sg).trans (own_l19 k0 k1 k2)).symm), rfl, rfl⟩ (by decide) (by decide)
          refine g_icmpY D363 97 d_prog_29m2_83 (feq zB2).2 (by decide) (by decide) ?_
          have k2 := cls_l zA2 zB2
          refine g_iconst D363 98 (0 : Int32) d_prog_29m2_97 rfl rfl ?_
          exact r_N D363 hret (by simp) hlk d_prog_29m2_98 ⟨congrArg (fun z => some (Value.int z)) (own_nar0.trans ((if_neg sg).trans (own_l20 k0 k1 k2)).symm), rfl, rfl⟩ (by decide) (by decide)
        refine g_icmpN D363 67 d_prog_29m2_64 (flt zA2).1 rfl ?_
        refine g_iload D363 69 d_prog_29m2_67 rfl rfl ?_
        refine g_bipush D363 71 (57 : Int32) d_prog_29m2_69 rfl rfl ?_
        by_cases zC2 : (57 : Int32) < c2
        · refine g_icmpY D363 79 d_prog_29m2_71 (tlt zC2).2.2.1 (by decide) (by decide) ?_
          refine g_iload D363 81 d_prog_29m2_79 rfl rfl ?_
          refine g_bipush D363 83 (46 : Int32) d_prog_29m2_81 rfl rfl ?_
          by_cases zD2 : c2 = (46 : Int32)
          · exact (cls_no zC2 zD2).elim
          refine g_icmpY D363 97 d_prog_29m2_83 (feq zD2).2 (by decide) (by decide) ?_
          have k2 := cls_g zA2 zC2
          refine g_iconst D363 98 (0 : Int32) d_prog_29m2_97 rfl rfl ?_
          exact r_N D363 hret (by simp) hlk d_prog_29m2_98 ⟨congrArg (fun z => some (Value.int z)) (own_nar0.trans ((if_neg sg).trans (own_l20 k0 k1 k2)).symm), rfl, rfl⟩ (by decide) (by decide)
        refine g_icmpN D363 74 d_prog_29m2_71 (flt zC2).2.2.1 rfl ?_
        have k2 := cls_d zA2 zC2
        refine g_iconst D363 75 (1 : Int32) d_prog_29m2_74 rfl rfl ?_
        refine g_istoreN D363 76 #[.val (.ref x), .val (.int (3 : Int32)), .val (.int (2 : Int32)), .val (.int (1 : Int32)), .val (.int (1 : Int32)), .val (.int c2)] d_prog_29m2_75 rfl rfl ?_
        refine g_goto D363 99 d_prog_29m2_76 (by decide) (by decide) ?_
        refine g_iinc D363 102 (1 : Int32) #[.val (.ref x), .val (.int (3 : Int32)), .val (.int ((2 : Int32) + (1 : Int32))), .val (.int (1 : Int32)), .val (.int (1 : Int32)), .val (.int c2)] d_prog_29m2_99 rfl rfl rfl rfl ?_
        rw [show ((2 : Int32) + (1 : Int32)) = (3 : Int32) from by decide]
        refine g_goto D363 46 d_prog_29m2_102 (by decide) (by decide) ?_
        refine g_iloadN D363 47 d_prog_29m2_46 rfl rfl ?_
        refine g_iloadN D363 48 d_prog_29m2_47 rfl rfl ?_
        refine g_icmpY D363 105 d_prog_29m2_48 (by decide) (by decide) (by decide) ?_
        refine g_iloadN D363 106 d_prog_29m2_105 rfl rfl ?_
        exact r_N D363 hret (by simp) hlk d_prog_29m2_106 ⟨congrArg (fun z => some (Value.int z)) (own_nar1.trans ((if_neg sg).trans (own_l21 k0 k1 k2)).symm), rfl, rfl⟩ (by decide) (by decide)
      refine g_icmpY D362 97 d_prog_29m2_83 (feq zB1).2 (by decide) (by decide) ?_
      have k1 := cls_l zA1 zB1
      refine g_iconst D362 98 (0 : Int32) d_prog_29m2_97 rfl rfl ?_
      exact r_N D362 hret (by simp) hlk d_prog_29m2_98 ⟨congrArg (fun z => some (Value.int z)) (own_nar0.trans ((if_neg sg).trans (own_l22 k0 k1)).symm), rfl, rfl⟩ (by decide) (by decide)
    refine g_icmpN D362 67 d_prog_29m2_64 (flt zA1).1 rfl ?_
    refine g_iload D362 69 d_prog_29m2_67 rfl rfl ?_
    refine g_bipush D362 71 (57 : Int32) d_prog_29m2_69 rfl rfl ?_
    by_cases zC1 : (57 : Int32) < c1
    · refine g_icmpY D362 79 d_prog_29m2_71 (tlt zC1).2.2.1 (by decide) (by decide) ?_
      refine g_iload D362 81 d_prog_29m2_79 rfl rfl ?_
      refine g_bipush D362 83 (46 : Int32) d_prog_29m2_81 rfl rfl ?_
      by_cases zD1 : c1 = (46 : Int32)
      · exact (cls_no zC1 zD1).elim
      refine g_icmpY D362 97 d_prog_29m2_83 (feq zD1).2 (by decide) (by decide) ?_
      have k1 := cls_g zA1 zC1
      refine g_iconst D362 98 (0 : Int32) d_prog_29m2_97 rfl rfl ?_
      exact r_N D362 hret (by simp) hlk d_prog_29m2_98 ⟨congrArg (fun z => some (Value.int z)) (own_nar0.trans ((if_neg sg).trans (own_l22 k0 k1)).symm), rfl, rfl⟩ (by decide) (by decide)
    refine g_icmpN D362 74 d_prog_29m2_71 (flt zC1).2.2.1 rfl ?_
    have k1 := cls_d zA1 zC1
    refine g_iconst D362 75 (1 : Int32) d_prog_29m2_74 rfl rfl ?_
    refine g_istoreN D362 76 #[.val (.ref x), .val (.int (3 : Int32)), .val (.int (1 : Int32)), .val (.int (1 : Int32)), .val (.int (0 : Int32)), .val (.int c1)] d_prog_29m2_75 rfl rfl ?_
    refine g_goto D362 99 d_prog_29m2_76 (by decide) (by decide) ?_
    refine g_iinc D362 102 (1 : Int32) #[.val (.ref x), .val (.int (3 : Int32)), .val (.int ((1 : Int32) + (1 : Int32))), .val (.int (1 : Int32)), .val (.int (0 : Int32)), .val (.int c1)] d_prog_29m2_99 rfl rfl rfl rfl ?_
    rw [show ((1 : Int32) + (1 : Int32)) = (2 : Int32) from by decide]
    refine g_goto D362 46 d_prog_29m2_102 (by decide) (by decide) ?_
    refine g_iloadN D362 47 d_prog_29m2_46 rfl rfl ?_
    refine g_iloadN D362 48 d_prog_29m2_47 rfl rfl ?_
    refine g_icmpN D362 51 d_prog_29m2_48 (by decide) rfl ?_
    refine g_aloadN D362 52 d_prog_29m2_51 rfl rfl rfl ?_
    refine g_iloadN D362 53 d_prog_29m2_52 rfl rfl ?_
    refine g_callIp D362 58 (hw _ w_72) (hw _ w_73) (hw _ w_74) (hw _ w_75) (hw _ w_76) (hw _ w_77) (hw _ w_78) (hw _ w_51) (by decide) ((cSCh_3_2 l Z a0 hw [] x zc fm c0 c1 c2 h0 n0 Z0 OLD SA SH SL CS hzc SFm rfm X_x).back D362 0 (hw _ w_79) (hw _ w_8) (by decide) (by decide)) X_x.exa rfl [(.int (2 : Int32))] rfl (lenOf pd_16 rfl) rfl (Nat.le_of_eq rfl) (by decide) (by decide) d_prog_29m2_53 rfl ?_
    intro v364 T364 q364 D364
    subst q364
    show Go p e below _ (T364.setTop (mkF m 58 #[.val (.ref x), .val (.int (3 : Int32)), .val (.int (2 : Int32)), .val (.int (1 : Int32)), .val (.int (0 : Int32)), .val (.int c1)] [(.int c2)]))
    refine g_istore D364 60 #[.val (.ref x), .val (.int (3 : Int32)), .val (.int (2 : Int32)), .val (.int (1 : Int32)), .val (.int (0 : Int32)), .val (.int c2)] d_prog_29m2_58 rfl rfl ?_
    refine g_iload D364 62 d_prog_29m2_60 rfl rfl ?_
    refine g_bipush D364 64 (48 : Int32) d_prog_29m2_62 rfl rfl ?_
    by_cases zA2 : c2 < (48 : Int32)
    · refine g_icmpY D364 79 d_prog_29m2_64 (tlt zA2).1 (by decide) (by decide) ?_
      refine g_iload D364 81 d_prog_29m2_79 rfl rfl ?_
      refine g_bipush D364 83 (46 : Int32) d_prog_29m2_81 rfl rfl ?_
      by_cases zB2 : c2 = (46 : Int32)
      · refine g_icmpN D364 86 d_prog_29m2_83 (teq zB2).2 rfl ?_
        have k2 := cls_p zA2 zB2
        refine g_iload D364 88 d_prog_29m2_86 rfl rfl ?_
        refine g_ifN D364 91 d_prog_29m2_88 (by decide) rfl ?_
        refine g_iconst D364 92 (1 : Int32) d_prog_29m2_91 rfl rfl ?_
        refine g_istore D364 94 #[.val (.ref x), .val (.int (3 : Int32)), .val (.int (2 : Int32)), .val (.int (1 : Int32)), .val (.int (1 : Int32)), .val (.int c2)] d_prog_29m2_92 rfl rfl ?_
        refine g_goto D364 99 d_prog_29m2_94 (by decide) (by decide) ?_
        refine g_iinc D364 102 (1 : Int32) #[.val (.ref x), .val (.int (3 : Int32)), .val (.int ((2 : Int32) + (1 : Int32))), .val (.int (1 : Int32)), .val (.int (1 : Int32)), .val (.int c2)] d_prog_29m2_99 rfl rfl rfl rfl ?_
        rw [show ((2 : Int32) + (1 : Int32)) = (3 : Int32) from by decide]
        refine g_goto D364 46 d_prog_29m2_102 (by decide) (by decide) ?_
        refine g_iloadN D364 47 d_prog_29m2_46 rfl rfl ?_
        refine g_iloadN D364 48 d_prog_29m2_47 rfl rfl ?_
        refine g_icmpY D364 105 d_prog_29m2_48 (by decide) (by decide) (by decide) ?_
        refine g_iloadN D364 106 d_prog_29m2_105 rfl rfl ?_
        exact r_N D364 hret (by simp) hlk d_prog_29m2_106 ⟨congrArg (fun z => some (Value.int z)) (own_nar1.trans ((if_neg sg).trans (own_l23 k0 k1 k2)).symm), rfl, rfl⟩ (by decide) (by decide)
      refine g_icmpY D364 97 d_prog_29m2_83 (feq zB2).2 (by decide) (by decide) ?_
      have k2 := cls_l zA2 zB2
      refine g_iconst D364 98 (0 : Int32) d_prog_29m2_97 rfl rfl ?_
      exact r_N D364 hret (by simp) hlk d_prog_29m2_98 ⟨congrArg (fun z => some (Value.int z)) (own_nar0.trans ((if_neg sg).trans (own_l24 k0 k1 k2)).symm), rfl, rfl⟩ (by decide) (by decide)
    refine g_icmpN D364 67 d_prog_29m2_64 (flt zA2).1 rfl ?_
    refine g_iload D364 69 d_prog_29m2_67 rfl rfl ?_
    refine g_bipush D364 71 (57 : Int32) d_prog_29m2_69 rfl rfl ?_
    by_cases zC2 : (57 : Int32) < c2
    · refine g_icmpY D364 79 d_prog_29m2_71 (tlt zC2).2.2.1 (by decide) (by decide) ?_
      refine g_iload D364 81 d_prog_29m2_79 rfl rfl ?_
      refine g_bipush D364 83 (46 : Int32) d_prog_29m2_81 rfl rfl ?_
      by_cases zD2 : c2 = (46 : Int32)
      · exact (cls_no zC2 zD2).elim
      refine g_icmpY D364 97 d_prog_29m2_83 (feq zD2).2 (by decide) (by decide) ?_
      have k2 := cls_g zA2 zC2
      refine g_iconst D364 98 (0 : Int32) d_prog_29m2_97 rfl rfl ?_
      exact r_N D364 hret (by simp) hlk d_prog_29m2_98 ⟨congrArg (fun z => some (Value.int z)) (own_nar0.trans ((if_neg sg).trans (own_l24 k0 k1 k2)).symm), rfl, rfl⟩ (by decide) (by decide)
    refine g_icmpN D364 74 d_prog_29m2_71 (flt zC2).2.2.1 rfl ?_
    have k2 := cls_d zA2 zC2
    refine g_iconst D364 75 (1 : Int32) d_prog_29m2_74 rfl rfl ?_
    refine g_istoreN D364 76 #[.val (.ref x), .val (.int (3 : Int32)), .val (.int (2 : Int32)), .val (.int (1 : Int32)), .val (.int (0 : Int32)), .val (.int c2)] d_prog_29m2_75 rfl rfl ?_
    refine g_goto D364 99 d_prog_29m2_76 (by decide) (by decide) ?_
    refine g_iinc D364 102 (1 : Int32) #[.val (.ref x), .val (.int (3 : Int32)), .val (.int ((2 : Int32) + (1 : Int32))), .val (.int (1 : Int32)), .val (.int (0 : Int32)), .val (.int c2)] d_prog_29m2_99 rfl rfl rfl rfl ?_
    rw [show ((2 : Int32) + (1 : Int32)) = (3 : Int32) from by decide]
    refine g_goto D364 46 d_prog_29m2_102 (by decide) (by decide) ?_
    refine g_iloadN D364 47 d_prog_29m2_46 rfl rfl ?_
    refine g_iloadN D364 48 d_prog_29m2_47 rfl rfl ?_
    refine g_icmpY D364 105 d_prog_29m2_48 (by decide) (by decide) (by decide) ?_
    refine g_iloadN D364 106 d_prog_29m2_105 rfl rfl ?_
    exact r_N D364 hret (by simp) hlk d_prog_29m2_106 ⟨congrArg (fun z => some (Value.int z)) (own_nar1.trans ((if_neg sg).trans (own_l25 k0 k1 k2)).symm), rfl, rfl⟩ (by decide) (by decide)
  intro TJ DJ sg
  show Go p e below _ (TJ.setTop (mkF m 40 #[.val (.ref x), .val (.int (3 : Int32)), .unset, .unset, .unset, .unset] [(.int (1 : Int32))]))
  refine g_istoreN DJ 41 #[.val (.ref x), .val (.int (3 : Int32)), .val (.int (1 : Int32)), .unset, .unset, .unset] d_prog_29m2_40 rfl rfl ?_
  refine g_iconst DJ 42 (0 : Int32) d_prog_29m2_41 rfl rfl ?_
  refine g_istoreN DJ 43 #[.val (.ref x), .val (.int (3 : Int32)), .val (.int (1 : Int32)), .val (.int (0 : Int32)), .unset, .unset] d_prog_29m2_42 rfl rfl ?_
  refine g_iconst DJ 44 (0 : Int32) d_prog_29m2_43 rfl rfl ?_
  refine g_istore DJ 46 #[.val (.ref x), .val (.int (3 : Int32)), .val (.int (1 : Int32)), .val (.int (0 : Int32)), .val (.int (0 : Int32)), .unset] d_prog_29m2_44 rfl rfl ?_
  refine g_iloadN DJ 47 d_prog_29m2_46 rfl rfl ?_
  refine g_iloadN DJ 48 d_prog_29m2_47 rfl rfl ?_
  refine g_icmpN DJ 51 d_prog_29m2_48 (by decide) rfl ?_
  refine g_aloadN DJ 52 d_prog_29m2_51 rfl rfl rfl ?_
  refine g_iloadN DJ 53 d_prog_29m2_52 rfl rfl ?_
  refine g_callIp DJ 58 (hw _ w_72) (hw _ w_73) (hw _ w_74) (hw _ w_75) (hw _ w_76) (hw _ w_77) (hw _ w_78) (hw _ w_51) (by decide) ((cSCh_3_1 l Z a0 hw [] x zc fm c0 c1 c2 h0 n0 Z0 OLD SA SH SL CS hzc SFm rfm X_x).back DJ 0 (hw _ w_79) (hw _ w_8) (by decide) (by decide)) X_x.exa rfl [(.int (1 : Int32))] rfl (lenOf pd_16 rfl) rfl (Nat.le_of_eq rfl) (by decide) (by decide) d_prog_29m2_53 rfl ?_
  intro v365 T365 q365 D365
  subst q365
  show Go p e below _ (T365.setTop (mkF m 58 #[.val (.ref x), .val (.int (3 : Int32)), .val (.int (1 : Int32)), .val (.int (0 : Int32)), .val (.int (0 : Int32)), .unset] [(.int c1)]))
  refine g_istore D365 60 #[.val (.ref x), .val (.int (3 : Int32)), .val (.int (1 : Int32)), .val (.int (0 : Int32)), .val (.int (0 : Int32)), .val (.int c1)] d_prog_29m2_58 rfl rfl ?_
  refine g_iload D365 62 d_prog_29m2_60 rfl rfl ?_
  refine g_bipush D365 64 (48 : Int32) d_prog_29m2_62 rfl rfl ?_
  by_cases zA1 : c1 < (48 : Int32)
  · refine g_icmpY D365 79 d_prog_29m2_64 (tlt zA1).1 (by decide) (by decide) ?_
    refine g_iload D365 81 d_prog_29m2_79 rfl rfl ?_
    refine g_bipush D365 83 (46 : Int32) d_prog_29m2_81 rfl rfl ?_
    by_cases zB1 : c1 = (46 : Int32)
    · refine g_icmpN D365 86 d_prog_29m2_83 (teq zB1).2 rfl ?_
      have k1 := cls_p zA1 zB1
      refine g_iload D365 88 d_prog_29m2_86 rfl rfl ?_
      refine g_ifN D365 91 d_prog_29m2_88 (by decide) rfl ?_
      refine g_iconst D365 92 (1 : Int32) d_prog_29m2_91 rfl rfl ?_
      refine g_istore D365 94 #[.val (.ref x), .val (.int (3 : Int32)), .val (.int (1 : Int32)), .val (.int (0 : Int32)), .val (.int (1 : Int32)), .val (.int c1)] d_prog_29m2_92 rfl rfl ?_
      refine g_goto D365 99 d_prog_29m2_94 (by decide) (by decide) ?_
      refine g_iinc D365 102 (1 : Int32) #[.val (.ref x), .val (.int (3 : Int32)), .val (.int ((1 : Int32) + (1 : Int32))), .val (.int (0 : Int32)), .val (.int (1 : Int32)), .val (.int c1)] d_prog_29m2_99 rfl rfl rfl rfl ?_
      rw [show ((1 : Int32) + (1 : Int32)) = (2 : Int32) from by decide]
      refine g_goto D365 46 d_prog_29m2_102 (by decide) (by decide) ?_
      refine g_iloadN D365 47 d_prog_29m2_46 rfl rfl ?_
      refine g_iloadN D365 48 d_prog_29m2_47 rfl rfl ?_
      refine g_icmpN D365 51 d_prog_29m2_48 (by decide) rfl ?_
      refine g_aloadN D365 52 d_prog_29m2_51 rfl rfl rfl ?_
      refine g_iloadN D365 53 d_prog_29m2_52 rfl rfl ?_
      refine g_callIp D365 58 (hw _ w_72) (hw _ w_73) (hw _ w_74) (hw _ w_75) (hw _ w_76) (hw _ w_77) (hw _ w_78) (hw _ w_51) (by decide) ((cSCh_3_2 l Z a0 hw [] x zc fm c0 c1 c2 h0 n0 Z0 OLD SA SH SL CS hzc SFm rfm X_x).back D365 0 (hw _ w_79) (hw _ w_8) (by decide) (by decide)) X_x.exa rfl [(.int (2 : Int32))] rfl (lenOf pd_16 rfl) rfl (Nat.le_of_eq rfl) (by decide) (by decide) d_prog_29m2_53 rfl ?_
      intro v366 T366 q366 D366
      subst q366
      show Go p e below _ (T366.setTop (mkF m 58 #[.val (.ref x), .val (.int (3 : Int32)), .val (.int (2 : Int32)), .val (.int (0 : Int32)), .val (.int (1 : Int32)), .val (.int c1)] [(.int c2)]))
      refine g_istore D366 60 #[.val (.ref x), .val (.int (3 : Int32)), .val (.int (2 : Int32)), .val (.int (0 : Int32)), .val (.int (1 : Int32)), .val (.int c2)] d_prog_29m2_58 rfl rfl ?_
      refine g_iload D366 62 d_prog_29m2_60 rfl rfl ?_
      refine g_bipush D366 64 (48 : Int32) d_prog_29m2_62 rfl rfl ?_
      by_cases zA2 : c2 < (48 : Int32)
      · refine g_icmpY D366 79 d_prog_29m2_64 (tlt zA2).1 (by decide) (by decide) ?_
        refine g_iload D366 81 d_prog_29m2_79 rfl rfl ?_
        refine g_bipush D366 83 (46 : Int32) d_prog_29m2_81 rfl rfl ?_
        by_cases zB2 : c2 = (46 : Int32)
        · refine g_icmpN D366 86 d_prog_29m2_83 (teq zB2).2 rfl ?_
          have k2 := cls_p zA2 zB2
          refine g_iload D366 88 d_prog_29m2_86 rfl rfl ?_
          refine g_ifY D366 97 d_prog_29m2_88 (by decide) (by decide) (by decide) ?_
          refine g_iconst D366 98 (0 : Int32) d_prog_29m2_97 rfl rfl ?_
          exact r_N D366 hret (by simp) hlk d_prog_29m2_98 ⟨congrArg (fun z => some (Value.int z)) (own_nar0.trans ((if_pos sg).trans (own_l26 k1 k2)).symm), rfl, rfl⟩ (by decide) (by decide)
        refine g_icmpY D366 97 d_prog_29m2_83 (feq zB2).2 (by decide) (by decide) ?_
        have k2 := cls_l zA2 zB2
        refine g_iconst D366 98 (0 : Int32) d_prog_29m2_97 rfl rfl ?_
        exact r_N D366 hret (by simp) hlk d_prog_29m2_98 ⟨congrArg (fun z => some (Value.int z)) (own_nar0.trans ((if_pos sg).trans (own_l27 k1 k2)).symm), rfl, rfl⟩ (by decide) (by decide)
      refine g_icmpN D366 67 d_prog_29m2_64 (flt zA2).1 rfl ?_
      refine g_iload D366 69 d_prog_29m2_67 rfl rfl ?_
      refine g_bipush D366 71 (57 : Int32) d_prog_29m2_69 rfl rfl ?_
      by_cases zC2 : (57 : Int32) < c2
      · refine g_icmpY D366 79 d_prog_29m2_71 (tlt zC2).2.2.1 (by decide) (by decide) ?_
        refine g_iload D366 81 d_prog_29m2_79 rfl rfl ?_
        refine g_bipush D366 83 (46 : Int32) d_prog_29m2_81 rfl rfl ?_
        by_cases zD2 : c2 = (46 : Int32)
        · exact (cls_no zC2 zD2).elim
        refine g_icmpY D366 97 d_prog_29m2_83 (feq zD2).2 (by decide) (by decide) ?_
        have k2 := cls_g zA2 zC2
        refine g_iconst D366 98 (0 : Int32) d_prog_29m2_97 rfl rfl ?_
        exact r_N D366 hret (by simp) hlk d_prog_29m2_98 ⟨congrArg (fun z => some (Value.int z)) (own_nar0.trans ((if_pos sg).trans (own_l27 k1 k2)).symm), rfl, rfl⟩ (by decide) (by decide)
      refine g_icmpN D366 74 d_prog_29m2_71 (flt zC2).2.2.1 rfl ?_
      have k2 := cls_d zA2 zC2
      refine g_iconst D366 75 (1 : Int32) d_prog_29m2_74 rfl rfl ?_
      refine g_istoreN D366 76 #[.val (.ref x), .val (.int (3 : Int32)), .val (.int (2 : Int32)), .val (.int (1 : Int32)), .val (.int (1 : Int32)), .val (.int c2)] d_prog_29m2_75 rfl rfl ?_
      refine g_goto D366 99 d_prog_29m2_76 (by decide) (by decide) ?_
      refine g_iinc D366 102 (1 : Int32) #[.val (.ref x), .val (.int (3 : Int32)), .val (.int ((2 : Int32) + (1 : Int32))), .val (.int (1 : Int32)), .val (.int (1 : Int32)), .val (.int c2)] d_prog_29m2_99 rfl rfl rfl rfl ?_
      rw [show ((2 : Int32) + (1 : Int32)) = (3 : Int32) from by decide]
      refine g_goto D366 46 d_prog_29m2_102 (by decide) (by decide) ?_
      refine g_iloadN D366 47 d_prog_29m2_46 rfl rfl ?_
      refine g_iloadN D366 48 d_prog_29m2_47 rfl rfl ?_
      refine g_icmpY D366 105 d_prog_29m2_48 (by decide) (by decide) (by decide) ?_
      refine g_iloadN D366 106 d_prog_29m2_105 rfl rfl ?_
      exact r_N D366 hret (by simp) hlk d_prog_29m2_106 ⟨congrArg (fun z => some (Value.int z)) (own_nar1.trans ((if_pos sg).trans (own_l28 k1 k2)).symm), rfl, rfl⟩ (by decide) (by decide)
    refine g_icmpY D365 97 d_prog_29m2_83 (feq zB1).2 (by decide) (by decide) ?_
    have k1 := cls_l zA1 zB1
    refine g_iconst D365 98 (0 : Int32) d_prog_29m2_97 rfl rfl ?_
    exact r_N D365 hret (by simp) hlk d_prog_29m2_98 ⟨congrArg (fun z => some (Value.int z)) (own_nar0.trans ((if_pos sg).trans (own_l29 k1)).symm), rfl, rfl⟩ (by decide) (by decide)
  refine g_icmpN D365 67 d_prog_29m2_64 (flt zA1).1 rfl ?_
  refine g_iload D365 69 d_prog_29m2_67 rfl rfl ?_
  refine g_bipush D365 71 (57 : Int32) d_prog_29m2_69 rfl rfl ?_
  by_cases zC1 : (57 : Int32) < c1
  · refine g_icmpY D365 79 d_prog_29m2_71 (tlt zC1).2.2.1 (by decide) (by decide) ?_
    refine g_iload D365 81 d_prog_29m2_79 rfl rfl ?_
    refine g_bipush D365 83 (46 : Int32) d_prog_29m2_81 rfl rfl ?_
    by_cases zD1 : c1 = (46 : Int32)
    · exact (cls_no zC1 zD1).elim
    refine g_icmpY D365 97 d_prog_29m2_83 (feq zD1).2 (by decide) (by decide) ?_
    have k1 := cls_g zA1 zC1
    refine g_iconst D365 98 (0 : Int32) d_prog_29m2_97 rfl rfl ?_
    exact r_N D365 hret (by simp) hlk d_prog_29m2_98 ⟨congrArg (fun z => some (Value.int z)) (own_nar0.trans ((if_pos sg).trans (own_l29 k1)).symm), rfl, rfl⟩ (by decide) (by decide)
  refine g_icmpN D365 74 d_prog_29m2_71 (flt zC1).2.2.1 rfl ?_
  have k1 := cls_d zA1 zC1
  refine g_iconst D365 75 (1 : Int32) d_prog_29m2_74 rfl rfl ?_
  refine g_istoreN D365 76 #[.val (.ref x), .val (.int (3 : Int32)), .val (.int (1 : Int32)), .val (.int (1 : Int32)), .val (.int (0 : Int32)), .val (.int c1)] d_prog_29m2_75 rfl rfl ?_
  refine g_goto D365 99 d_prog_29m2_76 (by decide) (by decide) ?_
  refine g_iinc D365 102 (1 : Int32) #[.val (.ref x), .val (.int (3 : Int32)), .val (.int ((1 : Int32) + (1 : Int32))), .val (.int (1 : Int32)), .val (.int (0 : Int32)), .val (.int c1)] d_prog_29m2_99 rfl rfl rfl rfl ?_
  rw [show ((1 : Int32) + (1 : Int32)) = (2 : Int32) from by decide]
  refine g_goto D365 46 d_prog_29m2_102 (by decide) (by decide) ?_
  refine g_iloadN D365 47 d_prog_29m2_46 rfl rfl ?_
  refine g_iloadN D365 48 d_prog_29m2_47 rfl rfl ?_
  refine g_icmpN D365 51 d_prog_29m2_48 (by decide) rfl ?_
  refine g_aloadN D365 52 d_prog_29m2_51 rfl rfl rfl ?_
  refine g_iloadN D365 53 d_prog_29m2_52 rfl rfl ?_
  refine g_callIp D365 58 (hw _ w_72) (hw _ w_73) (hw _ w_74) (hw _ w_75) (hw _ w_76) (hw _ w_77) (hw _ w_78) (hw _ w_51) (by decide) ((cSCh_3_2 l Z a0 hw [] x zc fm c0 c1 c2 h0 n0 Z0 OLD SA SH SL CS hzc SFm rfm X_x).back D365 0 (hw _ w_79) (hw _ w_8) (by decide) (by decide)) X_x.exa rfl [(.int (2 : Int32))] rfl (lenOf pd_16 rfl) rfl (Nat.le_of_eq rfl) (by decide) (by decide) d_prog_29m2_53 rfl ?_
  intro v367 T367 q367 D367
  subst q367
  show Go p e below _ (T367.setTop (mkF m 58 #[.val (.ref x), .val (.int (3 : Int32)), .val (.int (2 : Int32)), .val (.int (1 : Int32)), .val (.int (0 : Int32)), .val (.int c1)] [(.int c2)]))
  refine g_istore D367 60 #[.val (.ref x), .val (.int (3 : Int32)), .val (.int (2 : Int32)), .val (.int (1 : Int32)), .val (.int (0 : Int32)), .val (.int c2)] d_prog_29m2_58 rfl rfl ?_
  refine g_iload D367 62 d_prog_29m2_60 rfl rfl ?_
  refine g_bipush D367 64 (48 : Int32) d_prog_29m2_62 rfl rfl ?_
  by_cases zA2 : c2 < (48 : Int32)
  · refine g_icmpY D367 79 d_prog_29m2_64 (tlt zA2).1 (by decide) (by decide) ?_
    refine g_iload D367 81 d_prog_29m2_79 rfl rfl ?_
    refine g_bipush D367 83 (46 : Int32) d_prog_29m2_81 rfl rfl ?_
    by_cases zB2 : c2 = (46 : Int32)
    · refine g_icmpN D367 86 d_prog_29m2_83 (teq zB2).2 rfl ?_
      have k2 := cls_p zA2 zB2
      refine g_iload D367 88 d_prog_29m2_86 rfl rfl ?_
      refine g_ifN D367 91 d_prog_29m2_88 (by decide) rfl ?_
      refine g_iconst D367 92 (1 : Int32) d_prog_29m2_91 rfl rfl ?_
      refine g_istore D367 94 #[.val (.ref x), .val (.int (3 : Int32)), .val (.int (2 : Int32)), .val (.int (1 : Int32)), .val (.int (1 : Int32)), .val (.int c2)] d_prog_29m2_92 rfl rfl ?_
      refine g_goto D367 99 d_prog_29m2_94 (by decide) (by decide) ?_
      refine g_iinc D367 102 (1 : Int32) #[.val (.ref x), .val (.int (3 : Int32)), .val (.int ((2 : Int32) + (1 : Int32))), .val (.int (1 : Int32)), .val (.int (1 : Int32)), .val (.int c2)] d_prog_29m2_99 rfl rfl rfl rfl ?_
      rw [show ((2 : Int32) + (1 : Int32)) = (3 : Int32) from by decide]
      refine g_goto D367 46 d_prog_29m2_102 (by decide) (by decide) ?_
      refine g_iloadN D367 47 d_prog_29m2_46 rfl rfl ?_
      refine g_iloadN D367 48 d_prog_29m2_47 rfl rfl ?_
      refine g_icmpY D367 105 d_prog_29m2_48 (by decide) (by decide) (by decide) ?_
      refine g_iloadN D367 106 d_prog_29m2_105 rfl rfl ?_
      exact r_N D367 hret (by simp) hlk d_prog_29m2_106 ⟨congrArg (fun z => some (Value.int z)) (own_nar1.trans ((if_pos sg).trans (own_l30 k1 k2)).symm), rfl, rfl⟩ (by decide) (by decide)
    refine g_icmpY D367 97 d_prog_29m2_83 (feq zB2).2 (by decide) (by decide) ?_
    have k2 := cls_l zA2 zB2
    refine g_iconst D367 98 (0 : Int32) d_prog_29m2_97 rfl rfl ?_
    exact r_N D367 hret (by simp) hlk d_prog_29m2_98 ⟨congrArg (fun z => some (Value.int z)) (own_nar0.trans ((if_pos sg).trans (own_l31 k1 k2)).symm), rfl, rfl⟩ (by decide) (by decide)
  refine g_icmpN D367 67 d_prog_29m2_64 (flt zA2).1 rfl ?_
  refine g_iload D367 69 d_prog_29m2_67 rfl rfl ?_
  refine g_bipush D367 71 (57 : Int32) d_prog_29m2_69 rfl rfl ?_
  by_cases zC2 : (57 : Int32) < c2
  · refine g_icmpY D367 79 d_prog_29m2_71 (tlt zC2).2.2.1 (by decide) (by decide) ?_
    refine g_iload D367 81 d_prog_29m2_79 rfl rfl ?_
    refine g_bipush D367 83 (46 : Int32) d_prog_29m2_81 rfl rfl ?_
    by_cases zD2 : c2 = (46 : Int32)
    · exact (cls_no zC2 zD2).elim
    refine g_icmpY D367 97 d_prog_29m2_83 (feq zD2).2 (by decide) (by decide) ?_
    have k2 := cls_g zA2 zC2
    refine g_iconst D367 98 (0 : Int32) d_prog_29m2_97 rfl rfl ?_
    exact r_N D367 hret (by simp) hlk d_prog_29m2_98 ⟨congrArg (fun z => some (Value.int z)) (own_nar0.trans ((if_pos sg).trans (own_l31 k1 k2)).symm), rfl, rfl⟩ (by decide) (by decide)
  refine g_icmpN D367 74 d_prog_29m2_71 (flt zC2).2.2.1 rfl ?_
  have k2 := cls_d zA2 zC2
  refine g_iconst D367 75 (1 : Int32) d_prog_29m2_74 rfl rfl ?_
  refine g_istoreN D367 76 #[.val (.ref x), .val (.int (3 : Int32)), .val (.int (2 : Int32)), .val (.int (1 : Int32)), .val (.int (0 : Int32)), .val (.int c2)] d_prog_29m2_75 rfl rfl ?_
  refine g_goto D367 99 d_prog_29m2_76 (by decide) (by decide) ?_
  refine g_iinc D367 102 (1 : Int32) #[.val (.ref x), .val (.int (3 : Int32)), .val (.int ((2 : Int32) + (1 : Int32))), .val (.int (1 : Int32)), .val (.int (0 : Int32)), .val (.int c2)] d_prog_29m2_99 rfl rfl rfl rfl ?_
  rw [show ((2 : Int32) + (1 : Int32)) = (3 : Int32) from by decide]
  refine g_goto D367 46 d_prog_29m2_102 (by decide) (by decide) ?_
  refine g_iloadN D367 47 d_prog_29m2_46 rfl rfl ?_
  refine g_iloadN D367 48 d_prog_29m2_47 rfl rfl ?_
  refine g_icmpY D367 105 d_prog_29m2_48 (by decide) (by decide) (by decide) ?_
  refine g_iloadN D367 106 d_prog_29m2_105 rfl rfl ?_
  exact r_N D367 hret (by simp) hlk d_prog_29m2_106 ⟨congrArg (fun z => some (Value.int z)) (own_nar1.trans ((if_pos sg).trans (own_l32 k1 k2)).symm), rfl, rfl⟩ (by decide) (by decide)
theorem cPl_4 (l : Launch) (Z : State) (a0 : Array Value) (hw : tHW Z a0) (ws : List Jvm.Cond) (x : Addr) (zc : Int32) (fm : Value) (c0 c1 c2 c3 : Int32) (h0 : Heap) (n0 : Nat) (Z0 : n0 ≤ h0.size) (OLD : Old Z n0 h0) (SA : tSA Z) (SH : tSH Z) (SL : tSL Z) (CS : tCS Z zc) (hzc : ¬ zc = 0) (SFm : tSF Z fm) (rfm : fm.isRef = true) (X_x : TS Z h0 x [c0, c1, c2, c3]) :
    Con l (⟨"com/example/twelfths/twelfths/input/PlainDecimal", "isPlain", "(Ljava/lang/CharSequence;)Z"⟩ : MethodName) prog_29_method_2_code 6 (some .boolean) ws ({ frames := 5, cells := 0, slots := 0, locals := 66 } : Room) Z #[(.ref x)] h0 (fun v h L => v = some (.int (if own_sg c0 then (own_run [own_cls c1, own_cls c2, own_cls c3] 0 0) else (own_run [own_cls c0, own_cls c1, own_cls c2, own_cls c3] 0 0))) ∧ L = [] ∧ h = h0) 0 0 := by
  refine enter (plainFor_of_name pn_5) ?_
  intro p e s m below meth c s₁ hnm hret hlk D0
  rw [ef_cPl_4 m x]
  refine g_aloadN D0 1 d_prog_29m2_0 rfl rfl rfl ?_
  refine g_callIp D0 6 (hw _ w_44) (hw _ w_45) (hw _ w_46) (hw _ w_47) (hw _ w_48) (hw _ w_49) (hw _ w_50) (hw _ w_51) (by decide) (TS.lenB 0 D0 hw X_x (CS.ext OLD.2) hzc (by decide) (by decide)) X_x.exa rfl [] rfl (lenOf pd_15 rfl) rfl (Nat.le_of_eq rfl) (by decide) (by decide) d_prog_29m2_1 rfl ?_
  intro v368 T368 q368 D368
  subst q368
  show Go p e below _ (T368.setTop (mkF m 6 #[.val (.ref x), .unset, .unset, .unset, .unset, .unset] [(.int (4 : Int32))]))
  refine g_istoreN D368 7 #[.val (.ref x), .val (.int (4 : Int32)), .unset, .unset, .unset, .unset] d_prog_29m2_6 rfl rfl ?_
  refine g_iloadN D368 8 d_prog_29m2_7 rfl rfl ?_
  refine g_ifN D368 11 d_prog_29m2_8 (by decide) rfl ?_
  refine g_aloadN D368 12 d_prog_29m2_11 rfl rfl rfl ?_
  refine g_iconst D368 13 (0 : Int32) d_prog_29m2_12 rfl rfl ?_
  refine g_callIp D368 18 (hw _ w_72) (hw _ w_73) (hw _ w_74) (hw _ w_75) (hw _ w_76) (hw _ w_77) (hw _ w_78) (hw _ w_51) (by decide) ((cSCh_4_0 l Z a0 hw [] x zc fm c0 c1 c2 c3 h0 n0 Z0 OLD SA SH SL CS hzc SFm rfm X_x).back D368 0 (hw _ w_79) (hw _ w_8) (by decide) (by decide)) X_x.exa rfl [(.int (0 : Int32))] rfl (lenOf pd_16 rfl) rfl (Nat.le_of_eq rfl) (by decide) (by decide) d_prog_29m2_13 rfl ?_
  intro v369 T369 q369 D369
  subst q369
  show Go p e below _ (T369.setTop (mkF m 18 #[.val (.ref x), .val (.int (4 : Int32)), .unset, .unset, .unset, .unset] [(.int c0)]))
  refine g_bipush D369 20 (43 : Int32) d_prog_29m2_18 rfl rfl ?_
  suffices KJ : ∀ TJ, Wk p l e ({ frames := 5, cells := 0, slots := 0, locals := 66 } : Room) m #[.ref x] below meth c "com/example/twelfths/twelfths/input/PlainDecimal" prog_29_method_2_code 6 Z NI s TJ [] 0 0 h0 → own_sg c0 → Go p e below (NG s (fun v h L => v = some (.int (if own_sg c0 then (own_run [own_cls c1, own_cls c2, own_cls c3] 0 0) else (own_run [own_cls c0, own_cls c1, own_cls c2, own_cls c3] 0 0))) ∧ L = [] ∧ h = h0) 0 0) (TJ.setTop (mkF m 40 #[.val (.ref x), .val (.int (4 : Int32)), .unset, .unset, .unset, .unset] [(.int (1 : Int32))])) by
    by_cases y0 : c0 = (43 : Int32)
    · refine g_icmpY D369 35 d_prog_29m2_20 (teq y0).1 (by decide) (by decide) ?_
      refine g_iconst D369 36 (1 : Int32) d_prog_29m2_35 rfl rfl ?_
      refine g_goto D369 40 d_prog_29m2_36 (by decide) (by decide) ?_
      exact KJ _ D369 (Or.inl y0)
    refine g_icmpN D369 23 d_prog_29m2_20 (feq y0).1 rfl ?_
    refine g_aloadN D369 24 d_prog_29m2_23 rfl rfl rfl ?_
    refine g_iconst D369 25 (0 : Int32) d_prog_29m2_24 rfl rfl ?_
    refine g_callIp D369 30 (hw _ w_72) (hw _ w_73) (hw _ w_74) (hw _ w_75) (hw _ w_76) (hw _ w_77) (hw _ w_78) (hw _ w_51) (by decide) ((cSCh_4_0 l Z a0 hw [] x zc fm c0 c1 c2 c3 h0 n0 Z0 OLD SA SH SL CS hzc SFm rfm X_x).back D369 0 (hw _ w_79) (hw _ w_8) (by decide) (by decide)) X_x.exa rfl [(.int (0 : Int32))] rfl (lenOf pd_16 rfl) rfl (Nat.le_of_eq rfl) (by decide) (by decide) d_prog_29m2_25 rfl ?_
    intro v370 T370 q370 D370
    subst q370
    show Go p e below _ (T370.setTop (mkF m 30 #[.val (.ref x), .val (.int (4 : Int32)), .unset, .unset, .unset, .unset] [(.int c0)]))
    refine g_bipush D370 32 (45 : Int32) d_prog_29m2_30 rfl rfl ?_
    by_cases y1 : c0 = (45 : Int32)
    · refine g_icmpN D370 35 d_prog_29m2_32 (teq y1).2 rfl ?_
      refine g_iconst D370 36 (1 : Int32) d_prog_29m2_35 rfl rfl ?_
      refine g_goto D370 40 d_prog_29m2_36 (by decide) (by decide) ?_
      exact KJ _ D370 (Or.inr y1)
    refine g_icmpY D370 39 d_prog_29m2_32 (feq y1).2 (by decide) (by decide) ?_
    refine g_iconst D370 40 (0 : Int32) d_prog_29m2_39 rfl rfl ?_
    have sg : ¬ own_sg c0 := fun q => q.elim y0 y1
    refine g_istoreN D370 41 #[.val (.ref x), .val (.int (4 : Int32)), .val (.int (0 : Int32)), .unset, .unset, .unset] d_prog_29m2_40 rfl rfl ?_
    refine g_iconst D370 42 (0 : Int32) d_prog_29m2_41 rfl rfl ?_
    refine g_istoreN D370 43 #[.val (.ref x), .val (.int (4 : Int32)), .val (.int (0 : Int32)), .val (.int (0 : Int32)), .unset, .unset] d_prog_29m2_42 rfl rfl ?_
    refine g_iconst D370 44 (0 : Int32) d_prog_29m2_43 rfl rfl ?_
    refine g_istore D370 46 #[.val (.ref x), .val (.int (4 : Int32)), .val (.int (0 : Int32)), .val (.int (0 : Int32)), .val (.int (0 : Int32)), .unset] d_prog_29m2_44 rfl rfl ?_
    refine g_iloadN D370 47 d_prog_29m2_46 rfl rfl ?_
    refine g_iloadN D370 48 d_prog_29m2_47 rfl rfl ?_
    refine g_icmpN D370 51 d_prog_29m2_48 (by decide) rfl ?_
    refine g_aloadN D370 52 d_prog_29m2_51 rfl rfl rfl ?_
    refine g_iloadN D370 53 d_prog_29m2_52 rfl rfl ?_
    refine g_callIp D370 58 (hw _ w_72) (hw _ w_73) (hw _ w_74) (hw _ w_75) (hw _ w_76) (hw _ w_77) (hw _ w_78) (hw _ w_51) (by decide) ((cSCh_4_0 l Z a0 hw [] x zc fm c0 c1 c2 c3 h0 n0 Z0 OLD SA SH SL CS hzc SFm rfm X_x).back D370 0 (hw _ w_79) (hw _ w_8) (by decide) (by decide)) X_x.exa rfl [(.int (0 : Int32))] rfl (lenOf pd_16 rfl) rfl (Nat.le_of_eq rfl) (by decide) (by decide) d_prog_29m2_53 rfl ?_
    intro v371 T371 q371 D371
    subst q371
    show Go p e below _ (T371.setTop (mkF m 58 #[.val (.ref x), .val (.int (4 : Int32)), .val (.int (0 : Int32)), .val (.int (0 : Int32)), .val (.int (0 : Int32)), .unset] [(.int c0)]))
    refine g_istore D371 60 #[.val (.ref x), .val (.int (4 : Int32)), .val (.int (0 : Int32)), .val (.int (0 : Int32)), .val (.int (0 : Int32)), .val (.int c0)] d_prog_29m2_58 rfl rfl ?_
    refine g_iload D371 62 d_prog_29m2_60 rfl rfl ?_
    refine g_bipush D371 64 (48 : Int32) d_prog_29m2_62 rfl rfl ?_
    by_cases zA0 : c0 < (48 : Int32)
    · refine g_icmpY D371 79 d_prog_29m2_64 (tlt zA0).1 (by decide) (by decide) ?_
      refine g_iload D371 81 d_prog_29m2_79 rfl rfl ?_
      refine g_bipush D371 83 (46 : Int32) d_prog_29m2_81 rfl rfl ?_
      by_cases zB0 : c0 = (46 : Int32)
      · refine g_icmpN D371 86 d_prog_29m2_83 (teq zB0).2 rfl ?_
        have k0 := cls_p zA0 zB0
        refine g_iload D371 88 d_prog_29m2_86 rfl rfl ?_
        refine g_ifN D371 91 d_prog_29m2_88 (by decide) rfl ?_
        refine g_iconst D371 92 (1 : Int32) d_prog_29m2_91 rfl rfl ?_
        refine g_istore D371 94 #[.val (.ref x), .val (.int (4 : Int32)), .val (.int (0 : Int32)), .val (.int (0 : Int32)), .val (.int (1 : Int32)), .val (.int c0)] d_prog_29m2_92 rfl rfl ?_
        refine g_goto D371 99 d_prog_29m2_94 (by decide) (by decide) ?_
        refine g_iinc D371 102 (1 : Int32) #[.val (.ref x), .val (.int (4 : Int32)), .val (.int ((0 : Int32) + (1 : Int32))), .val (.int (0 : Int32)), .val (.int (1 : Int32)), .val (.int c0)] d_prog_29m2_99 rfl rfl rfl rfl ?_
        rw [show ((0 : Int32) + (1 : Int32)) = (1 : Int32) from by decide]
        refine g_goto D371 46 d_prog_29m2_102 (by decide) (by decide) ?_
        refine g_iloadN D371 47 d_prog_29m2_46 rfl rfl ?_
        refine g_iloadN D371 48 d_prog_29m2_47 rfl rfl ?_
        refine g_icmpN D371 51 d_prog_29m2_48 (by decide) rfl ?_
        refine g_aloadN D371 52 d_prog_29m2_51 rfl rfl rfl ?_
        refine g_iloadN D371 53 d_prog_29m2_52 rfl rfl ?_
        refine g_callIp D371 58 (hw _ w_72) (hw _ w_73) (hw _ w_74) (hw _ w_75) (hw _ w_76) (hw _ w_77) (hw _ w_78) (hw _ w_51) (by decide) ((cSCh_4_1 l Z a0 hw [] x zc fm c0 c1 c2 c3 h0 n0 Z0 OLD SA SH SL CS hzc SFm rfm X_x).back D371 0 (hw _ w_79) (hw _ w_8) (by decide) (by decide)) X_x.exa rfl [(.int (1 : Int32))] rfl (lenOf pd_16 rfl) rfl (Nat.le_of_eq rfl) (by decide) (by decide) d_prog_29m2_53 rfl ?_
        intro v372 T372 q372 D372
        subst q372
        show Go p e below _ (T372.setTop (mkF m 58 #[.val (.ref x), .val (.int (4 : Int32)), .val (.int (1 : Int32)), .val (.int (0 : Int32)), .val (.int (1 : Int32)), .val (.int c0)] [(.int c1)]))
        refine g_istore D372 60 #[.val (.ref x), .val (.int (4 : Int32)), .val (.int (1 : Int32)), .val (.int (0 : Int32)), .val (.int (1 : Int32)), .val (.int c1)] d_prog_29m2_58 rfl rfl ?_
        refine g_iload D372 62 d_prog_29m2_60 rfl rfl ?_
        refine g_bipush D372 64 (48 : Int32) d_prog_29m2_62 rfl rfl ?_
        by_cases zA1 : c1 < (48 : Int32)
        · refine g_icmpY D372 79 d_prog_29m2_64 (tlt zA1).1 (by decide) (by decide) ?_
          refine g_iload D372 81 d_prog_29m2_79 rfl rfl ?_
          refine g_bipush D372 83 (46 : Int32) d_prog_29m2_81 rfl rfl ?_
          by_cases zB1 : c1 = (46 : Int32)
          · refine g_icmpN D372 86 d_prog_29m2_83 (teq zB1).2 rfl ?_
            have k1 := cls_p zA1 zB1
            refine g_iload D372 88 d_prog_29m2_86 rfl rfl ?_
            refine g_ifY D372 97 d_prog_29m2_88 (by decide) (by decide) (by decide) ?_
            refine g_iconst D372 98 (0 : Int32) d_prog_29m2_97 rfl rfl ?_
            exact r_N D372 hret (by simp) hlk d_prog_29m2_98 ⟨congrArg (fun z => some (Value.int z)) (own_nar0.trans ((if_neg sg).trans (own_l33 k0 k1)).symm), rfl, rfl⟩ (by decide) (by decide)
          refine g_icmpY D372 97 d_prog_29m2_83 (feq zB1).2 (by decide) (by decide) ?_
          have k1 := cls_l zA1 zB1
          refine g_iconst D372 98 (0 : Int32) d_prog_29m2_97 rfl rfl ?_
          exact r_N D372 hret (by simp) hlk d_prog_29m2_98 ⟨congrArg (fun z => some (Value.int z)) (own_nar0.trans ((if_neg sg).trans (own_l34 k0 k1)).symm), rfl, rfl⟩ (by decide) (by decide)
        refine g_icmpN D372 67 d_prog_29m2_64 (flt zA1).1 rfl ?_
        refine g_iload D372 69 d_prog_29m2_67 rfl rfl ?_
        refine g_bipush D372 71 (57 : Int32) d_prog_29m2_69 rfl rfl ?_
        by_cases zC1 : (57 : Int32) < c1
        · refine g_icmpY D372 79 d_prog_29m2_71 (tlt zC1).2.2.1 (by decide) (by decide) ?_
          refine g_iload D372 81 d_prog_29m2_79 rfl rfl ?_
          refine g_bipush D372 83 (46 : Int32) d_prog_29m2_81 rfl rfl ?_
          by_cases zD1 : c1 = (46 : Int32)
          · exact (cls_no zC1 zD1).elim
          refine g_icmpY D372 97 d_prog_29m2_83 (feq zD1).2 (by decide) (by decide) ?_
          have k1 := cls_g zA1 zC1
          refine g_iconst D372 98 (0 : Int32) d_prog_29m2_97 rfl rfl ?_
          exact r_N D372 hret (by simp) hlk d_prog_29m2_98 ⟨congrArg (fun z => some (Value.int z)) (own_nar0.trans ((if_neg sg).trans (own_l34 k0 k1)).symm), rfl, rfl⟩ (by decide) (by decide)
        refine g_icmpN D372 74 d_prog_29m2_71 (flt zC1).2.2.1 rfl ?_
        have k1 := cls_d zA1 zC1
        refine g_iconst D372 75 (1 : Int32) d_prog_29m2_74 rfl rfl ?_
        refine g_istoreN D372 76 #[.val (.ref x), .val (.int (4 : Int32)), .val (.int (1 : Int32)), .val (.int (1 : Int32)), .val (.int (1 : Int32)), .val (.int c1)] d_prog_29m2_75 rfl rfl ?_
        refine g_goto D372 99 d_prog_29m2_76 (by decide) (by decide) ?_
        refine g_iinc D372 102 (1 : Int32) #[.val (.ref x), .val (.int (4 : Int32)), .val (.int ((1 : Int32) + (1 : Int32))), .val (.int (1 : Int32)), .val (.int (1 : Int32)), .val (.int c1)] d_prog_29m2_99 rfl rfl rfl rfl ?_
        rw [show ((1 : Int32) + (1 : Int32)) = (2 : Int32) from by decide]
        refine g_goto D372 46 d_prog_29m2_102 (by decide) (by decide) ?_
        refine g_iloadN D372 47 d_prog_29m2_46 rfl rfl ?_
        refine g_iloadN D372 48 d_prog_29m2_47 rfl rfl ?_
        refine g_icmpN D372 51 d_prog_29m2_48 (by decide) rfl ?_
        refine g_aloadN D372 52 d_prog_29m2_51 rfl rfl rfl ?_
        refine g_iloadN D372 53 d_prog_29m2_52 rfl rfl ?_
        refine g_callIp D372 58 (hw _ w_72) (hw _ w_73) (hw _ w_74) (hw _ w_75) (hw _ w_76) (hw _ w_77) (hw _ w_78) (hw _ w_51) (by decide) ((cSCh_4_2 l Z a0 hw [] x zc fm c0 c1 c2 c3 h0 n0 Z0 OLD SA SH SL CS hzc SFm rfm X_x).back D372 0 (hw _ w_79) (hw _ w_8) (by decide) (by decide)) X_x.exa rfl [(.int (2 : Int32))] rfl (lenOf pd_16 rfl) rfl (Nat.le_of_eq rfl) (by decide) (by decide) d_prog_29m2_53 rfl ?_
        intro v373 T373 q373 D373
        subst q373
        show Go p e below _ (T373.setTop (mkF m 58 #[.val (.ref x), .val (.int (4 : Int32)), .val (.int (2 : Int32)), .val (.int (1 : Int32)), .val (.int (1 : Int32)), .val (.int c1)] [(.int c2)]))
        refine g_istore D373 60 #[.val (.ref x), .val (.int (4 : Int32)), .val (.int (2 : Int32)), .val (.int (1 : Int32)), .val (.int (1 : Int32)), .val (.int c2)] d_prog_29m2_58 rfl rfl ?_
        refine g_iload D373 62 d_prog_29m2_60 rfl rfl ?_
        refine g_bipush D373 64 (48 : Int32) d_prog_29m2_62 rfl rfl ?_
        by_cases zA2 : c2 < (48 : Int32)
        · refine g_icmpY D373 79 d_prog_29m2_64 (tlt zA2).1 (by decide) (by decide) ?_
          refine g_iload D373 81 d_prog_29m2_79 rfl rfl ?_
          refine g_bipush D373 83 (46 : Int32) d_prog_29m2_81 rfl rfl ?_
          by_cases zB2 : c2 = (46 : Int32)
          · refine g_icmpN D373 86 d_prog_29m2_83 (teq zB2).2 rfl ?_
            have k2 := cls_p zA2 zB2
            refine g_iload D373 88 d_prog_29m2_86 rfl rfl ?_
            refine g_ifY D373 97 d_prog_29m2_88 (by decide) (by decide) (by decide) ?_
            refine g_iconst D373 98 (0 : Int32) d_prog_29m2_97 rfl rfl ?_
            exact r_N D373 hret (by simp) hlk d_prog_29m2_98 ⟨congrArg (fun z => some (Value.int z)) (own_nar0.trans ((if_neg sg).trans (own_l35 k0 k1 k2)).symm), rfl, rfl⟩ (by decide) (by decide)
          refine g_icmpY D373 97 d_prog_29m2_83 (feq zB2).2 (by decide) (by decide) ?_
          have k2 := cls_l zA2 zB2
          refine g_iconst D373 98 (0 : Int32) d_prog_29m2_97 rfl rfl ?_
          exact r_N D373 hret (by simp) hlk d_prog_29m2_98 ⟨congrArg (fun z => some (Value.int z)) (own_nar0.trans ((if_neg sg).trans (own_l36 k0 k1 k2)).symm), rfl, rfl⟩ (by decide) (by decide)
        refine g_icmpN D373 67 d_prog_29m2_64 (flt zA2).1 rfl ?_
        refine g_iload D373 69 d_prog_29m2_67 rfl rfl ?_
        refine g_bipush D373 71 (57 : Int32) d_prog_29m2_69 rfl rfl ?_
        by_cases zC2 : (57 : Int32) < c2
        · refine g_icmpY D373 79 d_prog_29m2_71 (tlt zC2).2.2.1 (by decide) (by decide) ?_
          refine g_iload D373 81 d_prog_29m2_79 rfl rfl ?_
          refine g_bipush D373 83 (46 : Int32) d_prog_29m2_81 rfl rfl ?_
          by_cases zD2 : c2 = (46 : Int32)
          · exact (cls_no zC2 zD2).elim
          refine g_icmpY D373 97 d_prog_29m2_83 (feq zD2).2 (by decide) (by decide) ?_
          have k2 := cls_g zA2 zC2
          refine g_iconst D373 98 (0 : Int32) d_prog_29m2_97 rfl rfl ?_
          exact r_N D373 hret (by simp) hlk d_prog_29m2_98 ⟨congrArg (fun z => some (Value.int z)) (own_nar0.trans ((if_neg sg).trans (own_l36 k0 k1 k2)).symm), rfl, rfl⟩ (by decide) (by decide)
        refine g_icmpN D373 74 d_prog_29m2_71 (flt zC2).2.2.1 rfl ?_
        have k2 := cls_d zA2 zC2
        refine g_iconst D373 75 (1 : Int32) d_prog_29m2_74 rfl rfl ?_
        refine g_istoreN D373 76 #[.val (.ref x), .val (.int (4 : Int32)), .val (.int (2 : Int32)), .val (.int (1 : Int32)), .val (.int (1 : Int32)), .val (.int c2)] d_prog_29m2_75 rfl rfl ?_
        refine g_goto D373 99 d_prog_29m2_76 (by decide) (by decide) ?_
        refine g_iinc D373 102 (1 : Int32) #[.val (.ref x), .val (.int (4 : Int32)), .val (.int ((2 : Int32) + (1 : Int32))), .val (.int (1 : Int32)), .val (.int (1 : Int32)), .val (.int c2)] d_prog_29m2_99 rfl rfl rfl rfl ?_
        rw [show ((2 : Int32) + (1 : Int32)) = (3 : Int32) from by decide]
        refine g_goto D373 46 d_prog_29m2_102 (by decide) (by decide) ?_
        refine g_iloadN D373 47 d_prog_29m2_46 rfl rfl ?_
        refine g_iloadN D373 48 d_prog_29m2_47 rfl rfl ?_
        refine g_icmpN D373 51 d_prog_29m2_48 (by decide) rfl ?_
        refine g_aloadN D373 52 d_prog_29m2_51 rfl rfl rfl ?_
        refine g_iloadN D373 53 d_prog_29m2_52 rfl rfl ?_
        refine g_callIp D373 58 (hw _ w_72) (hw _ w_73) (hw _ w_74) (hw _ w_75) (hw _ w_76) (hw _ w_77) (hw _ w_78) (hw _ w_51) (by decide) ((cSCh_4_3 l Z a0 hw [] x zc fm c0 c1 c2 c3 h0 n0 Z0 OLD SA SH SL CS hzc SFm rfm X_x).back D373 0 (hw _ w_79) (hw _ w_8) (by decide) (by decide)) X_x.exa rfl [(.int (3 : Int32))] rfl (lenOf pd_16 rfl) rfl (Nat.le_of_eq rfl) (by decide) (by decide) d_prog_29m2_53 rfl ?_
        intro v374 T374 q374 D374
        subst q374
        show Go p e below _ (T374.setTop (mkF m 58 #[.val (.ref x), .val (.int (4 : Int32)), .val (.int (3 : Int32)), .val (.int (1 : Int32)), .val (.int (1 : Int32)), .val (.int c2)] [(.int c3)]))
        refine g_istore D374 60 #[.val (.ref x), .val (.int (4 : Int32)), .val (.int (3 : Int32)), .val (.int (1 : Int32)), .val (.int (1 : Int32)), .val (.int c3)] d_prog_29m2_58 rfl rfl ?_
        refine g_iload D374 62 d_prog_29m2_60 rfl rfl ?_
        refine g_bipush D374 64 (48 : Int32) d_prog_29m2_62 rfl rfl ?_
        by_cases zA3 : c3 < (48 : Int32)
        · refine g_icmpY D374 79 d_prog_29m2_64 (tlt zA3).1 (by decide) (by decide) ?_
          refine g_iload D374 81 d_prog_29m2_79 rfl rfl ?_
          refine g_bipush D374 83 (46 : Int32) d_prog_29m2_81 rfl rfl ?_
          by_cases zB3 : c3 = (46 : Int32)
          · refine g_icmpN D374 86 d_prog_29m2_83 (teq zB3).2 rfl ?_
            have k3 := cls_p zA3 zB3
            refine g_iload D374 88 d_prog_29m2_86 rfl rfl ?_
            refine g_ifY D374 97 d_prog_29m2_88 (by decide) (by decide) (by decide) ?_
            refine g_iconst D374 98 (0 : Int32) d_prog_29m2_97 rfl rfl ?_
            exact r_N D374 hret (by simp) hlk d_prog_29m2_98 ⟨congrArg (fun z => some (Value.int z)) (own_nar0.trans ((if_neg sg).trans (own_l37 k0 k1 k2 k3)).symm), rfl, rfl⟩ (by decide) (by decide)
          refine g_icmpY D374 97 d_prog_29m2_83 (feq zB3).2 (by decide) (by decide) ?_
          have k3 := cls_l zA3 zB3
          refine g_iconst D374 98 (0 : Int32) d_prog_29m2_97 rfl rfl ?_
          exact r_N D374 hret (by simp) hlk d_prog_29m2_98 ⟨congrArg (fun z => some (Value.int z)) (own_nar0.trans ((if_neg sg).trans (own_l38 k0 k1 k2 k3)).symm), rfl, rfl⟩ (by decide) (by decide)
        refine g_icmpN D374 67 d_prog_29m2_64 (flt zA3).1 rfl ?_
        refine g_iload D374 69 d_prog_29m2_67 rfl rfl ?_
        refine g_bipush D374 71 (57 : Int32) d_prog_29m2_69 rfl rfl ?_
        by_cases zC3 : (57 : Int32) < c3
        · refine g_icmpY D374 79 d_prog_29m2_71 (tlt zC3).2.2.1 (by decide) (by decide) ?_
          refine g_iload D374 81 d_prog_29m2_79 rfl rfl ?_
          refine g_bipush D374 83 (46 : Int32) d_prog_29m2_81 rfl rfl ?_
          by_cases zD3 : c3 = (46 : Int32)
          · exact (cls_no zC3 zD3).elim
          refine g_icmpY D374 97 d_prog_29m2_83 (feq zD3).2 (by decide) (by decide) ?_
          have k3 := cls_g zA3 zC3
          refine g_iconst D374 98 (0 : Int32) d_prog_29m2_97 rfl rfl ?_
          exact r_N D374 hret (by simp) hlk d_prog_29m2_98 ⟨congrArg (fun z => some (Value.int z)) (own_nar0.trans ((if_neg sg).trans (own_l38 k0 k1 k2 k3)).symm), rfl, rfl⟩ (by decide) (by decide)
        refine g_icmpN D374 74 d_prog_29m2_71 (flt zC3).2.2.1 rfl ?_
        have k3 := cls_d zA3 zC3
        refine g_iconst D374 75 (1 : Int32) d_prog_29m2_74 rfl rfl ?_
        refine g_istoreN D374 76 #[.val (.ref x), .val (.int (4 : Int32)), .val (.int (3 : Int32)), .val (.int (1 : Int32)), .val (.int (1 : Int32)), .val (.int c3)] d_prog_29m2_75 rfl rfl ?_
        refine g_goto D374 99 d_prog_29m2_76 (by decide) (by decide) ?_
        refine g_iinc D374 102 (1 : Int32) #[.val (.ref x), .val (.int (4 : Int32)), .val (.int ((3 : Int32) + (1 : Int32))), .val (.int (1 : Int32)), .val (.int (1 : Int32)), .val (.int c3)] d_prog_29m2_99 rfl rfl rfl rfl ?_
        rw [show ((3 : Int32) + (1 : Int32)) = (4 : Int32) from by decide]
        refine g_goto D374 46 d_prog_29m2_102 (by decide) (by decide) ?_
        refine g_iloadN D374 47 d_prog_29m2_46 rfl rfl ?_
        refine g_iloadN D374 48 d_prog_29m2_47 rfl rfl ?_
        refine g_icmpY D374 105 d_prog_29m2_48 (by decide) (by decide) (by decide) ?_
        refine g_iloadN D374 106 d_prog_29m2_105 rfl rfl ?_
        exact r_N D374 hret (by simp) hlk d_prog_29m2_106 ⟨congrArg (fun z => some (Value.int z)) (own_nar1.trans ((if_neg sg).trans (own_l39 k0 k1 k2 k3)).symm), rfl, rfl⟩ (by decide) (by decide)
      refine g_icmpY D371 97 d_prog_29m2_83 (feq zB0).2 (by decide) (by decide) ?_
      have k0 := cls_l zA0 zB0
      refine g_iconst D371 98 (0 : Int32) d_prog_29m2_97 rfl rfl ?_
      exact r_N D371 hret (by simp) hlk d_prog_29m2_98 ⟨congrArg (fun z => some (Value.int z)) (own_nar0.trans ((if_neg sg).trans (own_l40 k0)).symm), rfl, rfl⟩ (by decide) (by decide)
    refine g_icmpN D371 67 d_prog_29m2_64 (flt zA0).1 rfl ?_
    refine g_iload D371 69 d_prog_29m2_67 rfl rfl ?_
    refine g_bipush D371 71 (57 : Int32) d_prog_29m2_69 rfl rfl ?_
    by_cases zC0 : (57 : Int32) < c0
    · refine g_icmpY D371 79 d_prog_29m2_71 (tlt zC0).2.2.1 (by decide) (by decide) ?_
      refine g_iload D371 81 d_prog_29m2_79 rfl rfl ?_
      refine g_bipush D371 83 (46 : Int32) d_prog_29m2_81 rfl rfl ?_
      by_cases zD0 : c0 = (46 : Int32)
      · exact (cls_no zC0 zD0).elim
      refine g_icmpY D371 97 d_prog_29m2_83 (feq zD0).2 (by decide) (by decide) ?_
      have k0 := cls_g zA0 zC0
      refine g_iconst D371 98 (0 : Int32) d_prog_29m2_97 rfl rfl ?_
      exact r_N D371 hret (by simp) hlk d_prog_29m2_98 ⟨congrArg (fun z => some (Value.int z)) (own_nar0.trans ((if_neg sg).trans (own_l40 k0)).symm), rfl, rfl⟩ (by decide) (by decide)
    refine g_icmpN D371 74 d_prog_29m2_71 (flt zC0).2.2.1 rfl ?_
    have k0 := cls_d zA0 zC0
    refine g_iconst D371 75 (1 : Int32) d_prog_29m2_74 rfl rfl ?_
    refine g_istoreN D371 76 #[.val (.ref x), .val (.int (4 : Int32)), .val (.int (0 : Int32)), .val (.int (1 : Int32)), .val (.int (0 : Int32)), .val (.int c0)] d_prog_29m2_75 rfl rfl ?_
    refine g_goto D371 99 d_prog_29m2_76 (by decide) (by decide) ?_
    refine g_iinc D371 102 (1 : Int32) #[.val (.ref x), .val (.int (4 : Int32)), .val (.int ((0 : Int32) + (1 : Int32))), .val (.int (1 : Int32)), .val (.int (0 : Int32)), .val (.int c0)] d_prog_29m2_99 rfl rfl rfl rfl ?_
    rw [show ((0 : Int32) + (1 : Int32)) = (1 : Int32) from by decide]
    refine g_goto D371 46 d_prog_29m2_102 (by decide) (by decide) ?_
    refine g_iloadN D371 47 d_prog_29m2_46 rfl rfl ?_
    refine g_iloadN D371 48 d_prog_29m2_47 rfl rfl ?_
    refine g_icmpN D371 51 d_prog_29m2_48 (by decide) rfl ?_
    refine g_aloadN D371 52 d_prog_29m2_51 rfl rfl rfl ?_
    refine g_iloadN D371 53 d_prog_29m2_52 rfl rfl ?_
    refine g_callIp D371 58 (hw _ w_72) (hw _ w_73) (hw _ w_74) (hw _ w_75) (hw _ w_76) (hw _ w_77) (hw _ w_78) (hw _ w_51) (by decide) ((cSCh_4_1 l Z a0 hw [] x zc fm c0 c1 c2 c3 h0 n0 Z0 OLD SA SH SL CS hzc SFm rfm X_x).back D371 0 (hw _ w_79) (hw _ w_8) (by decide) (by decide)) X_x.exa rfl [(.int (1 : Int32))] rfl (lenOf pd_16 rfl) rfl (Nat.le_of_eq rfl) (by decide) (by decide) d_prog_29m2_53 rfl ?_
    intro v375 T375 q375 D375
    subst q375
    show Go p e below _ (T375.setTop (mkF m 58 #[.val (.ref x), .val (.int (4 : Int32)), .val (.int (1 : Int32)), .val (.int (1 : Int32)), .val (.int (0 : Int32)), .val (.int c0)] [(.int c1)]))
    refine g_istore D375 60 #[.val (.ref x), .val (.int (4 : Int32)), .val (.int (1 : Int32)), .val (.int (1 : Int32)), .val (.int (0 : Int32)), .val (.int c1)] d_prog_29m2_58 rfl rfl ?_
    refine g_iload D375 62 d_prog_29m2_60 rfl rfl ?_
    refine g_bipush D375 64 (48 : Int32) d_prog_29m2_62 rfl rfl ?_
    by_cases zA1 : c1 < (48 : Int32)
    · refine g_icmpY D375 79 d_prog_29m2_64 (tlt zA1).1 (by decide) (by decide) ?_
      refine g_iload D375 81 d_prog_29m2_79 rfl rfl ?_
      refine g_bipush D375 83 (46 : Int32) d_prog_29m2_81 rfl rfl ?_
      by_cases zB1 : c1 = (46 : Int32)
      · refine g_icmpN D375 86 d_prog_29m2_83 (teq zB1).2 rfl ?_
        have k1 := cls_p zA1 zB1
        refine g_iload D375 88 d_prog_29m2_86 rfl rfl ?_
        refine g_ifN D375 91 d_prog_29m2_88 (by decide) rfl ?_
        refine g_iconst D375 92 (1 : Int32) d_prog_29m2_91 rfl rfl ?_
        refine g_istore D375 94 #[.val (.ref x), .val (.int (4 : Int32)), .val (.int (1 : Int32)), .val (.int (1 : Int32)), .val (.int (1 : Int32)), .val (.int c1)] d_prog_29m2_92 rfl rfl ?_
        refine g_goto D375 99 d_prog_29m2_94 (by decide) (by decide) ?_
        refine g_iinc D375 102 (1 : Int32) #[.val (.ref x), .val (.int (4 : Int32)), .val (.int ((1 : Int32) + (1 : Int32))), .val (.int (1 : Int32)), .val (.int (1 : Int32)), .val (.int c1)] d_prog_29m2_99 rfl rfl rfl rfl ?_
        rw [show ((1 : Int32) + (1 : Int32)) = (2 : Int32) from by decide]
        refine g_goto D375 46 d_prog_29m2_102 (by decide) (by decide) ?_
        refine g_iloadN D375 47 d_prog_29m2_46 rfl rfl ?_
        refine g_iloadN D375 48 d_prog_29m2_47 rfl rfl ?_
        refine g_icmpN D375 51 d_prog_29m2_48 (by decide) rfl ?_
        refine g_aloadN D375 52 d_prog_29m2_51 rfl rfl rfl ?_
        refine g_iloadN D375 53 d_prog_29m2_52 rfl rfl ?_
        refine g_callIp D375 58 (hw _ w_72) (hw _ w_73) (hw _ w_74) (hw _ w_75) (hw _ w_76) (hw _ w_77) (hw _ w_78) (hw _ w_51) (by decide) ((cSCh_4_2 l Z a0 hw [] x zc fm c0 c1 c2 c3 h0 n0 Z0 OLD SA SH SL CS hzc SFm rfm X_x).back D375 0 (hw _ w_79) (hw _ w_8) (by decide) (by decide)) X_x.exa rfl [(.int (2 : Int32))] rfl (lenOf pd_16 rfl) rfl (Nat.le_of_eq rfl) (by decide) (by decide) d_prog_29m2_53 rfl ?_
        intro v376 T376 q376 D376
        subst q376
        show Go p e below _ (T376.setTop (mkF m 58 #[.val (.ref x), .val (.int (4 : Int32)), .val (.int (2 : Int32)), .val (.int (1 : Int32)), .val (.int (1 : Int32)), .val (.int c1)] [(.int c2)]))
        refine g_istore D376 60 #[.val (.ref x), .val (.int (4 : Int32)), .val (.int (2 : Int32)), .val (.int (1 : Int32)), .val (.int (1 : Int32)), .val (.int c2)] d_prog_29m2_58 rfl rfl ?_
        refine g_iload D376 62 d_prog_29m2_60 rfl rfl ?_
        refine g_bipush D376 64 (48 : Int32) d_prog_29m2_62 rfl rfl ?_
        by_cases zA2 : c2 < (48 : Int32)
        · refine g_icmpY D376 79 d_prog_29m2_64 (tlt zA2).1 (by decide) (by decide) ?_
          refine g_iload D376 81 d_prog_29m2_79 rfl rfl ?_
          refine g_bipush D376 83 (46 : Int32) d_prog_29m2_81 rfl rfl ?_
          by_cases zB2 : c2 = (46 : Int32)
          · refine g_icmpN D376 86 d_prog_29m2_83 (teq zB2).2 rfl ?_
            have k2 := cls_p zA2 zB2
            refine g_iload D376 88 d_prog_29m2_86 rfl rfl ?_
            refine g_ifY D376 97 d_prog_29m2_88 (by decide) (by decide) (by decide) ?_
            refine g_iconst D376 98 (0 : Int32) d_prog_29m2_97 rfl rfl ?_
            exact r_N D376 hret (by simp) hlk d_prog_29m2_98 ⟨congrArg (fun z => some (Value.int z)) (own_nar0.trans ((if_neg sg).trans (own_l41 k0 k1 k2)).symm), rfl, rfl⟩ (by decide) (by decide)
          refine g_icmpY D376 97 d_prog_29m2_83 (feq zB2).2 (by decide) (by decide) ?_
          have k2 := cls_l zA2 zB2
          refine g_iconst D376 98 (0 : Int32) d_prog_29m2_97 rfl rfl ?_
          exact r_N D376 hret (by simp) hlk d_prog_29m2_98 ⟨congrArg (fun z => some (Value.int z)) (own_nar0.trans ((if_neg sg).trans (own_l42 k0 k1 k2)).symm), rfl, rfl⟩ (by decide) (by decide)
        refine g_icmpN D376 67 d_prog_29m2_64 (flt zA2).1 rfl ?_
        refine g_iload D376 69 d_prog_29m2_67 rfl rfl ?_
        refine g_bipush D376 71 (57 : Int32) d_prog_29m2_69 rfl rfl ?_
        by_cases zC2 : (57 : Int32) < c2
        · refine g_icmpY D376 79 d_prog_29m2_71 (tlt zC2).2.2.1 (by decide) (by decide) ?_
          refine g_iload D376 81 d_prog_29m2_79 rfl rfl ?_
          refine g_bipush D376 83 (46 : Int32) d_prog_29m2_81 rfl rfl ?_
          by_cases zD2 : c2 = (46 : Int32)
          · exact (cls_no zC2 zD2).elim
          refine g_icmpY D376 97 d_prog_29m2_83 (feq zD2).2 (by decide) (by decide) ?_
          have k2 := cls_g zA2 zC2
          refine g_iconst D376 98 (0 : Int32) d_prog_29m2_97 rfl rfl ?_
          exact r_N D376 hret (by simp) hlk d_prog_29m2_98 ⟨congrArg (fun z => some (Value.int z)) (own_nar0.trans ((if_neg sg).trans (own_l42 k0 k1 k2)).symm), rfl, rfl⟩ (by decide) (by decide)
        refine g_icmpN D376 74 d_prog_29m2_71 (flt zC2).2.2.1 rfl ?_
        have k2 := cls_d zA2 zC2
        refine g_iconst D376 75 (1 : Int32) d_prog_29m2_74 rfl rfl ?_
        refine g_istoreN D376 76 #[.val (.ref x), .val (.int (4 : Int32)), .val (.int (2 : Int32)), .val (.int (1 : Int32)), .val (.int (1 : Int32)), .val (.int c2)] d_prog_29m2_75 rfl rfl ?_
        refine g_goto D376 99 d_prog_29m2_76 (by decide) (by decide) ?_
        refine g_iinc D376 102 (1 : Int32) #[.val (.ref x), .val (.int (4 : Int32)), .val (.int ((2 : Int32) + (1 : Int32))), .val (.int (1 : Int32)), .val (.int (1 : Int32)), .val (.int c2)] d_prog_29m2_99 rfl rfl rfl rfl ?_
        rw [show ((2 : Int32) + (1 : Int32)) = (3 : Int32) from by decide]
        refine g_goto D376 46 d_prog_29m2_102 (by decide) (by decide) ?_
        refine g_iloadN D376 47 d_prog_29m2_46 rfl rfl ?_
        refine g_iloadN D376 48 d_prog_29m2_47 rfl rfl ?_
        refine g_icmpN D376 51 d_prog_29m2_48 (by decide) rfl ?_
        refine g_aloadN D376 52 d_prog_29m2_51 rfl rfl rfl ?_
        refine g_iloadN D376 53 d_prog_29m2_52 rfl rfl ?_
        refine g_callIp D376 58 (hw _ w_72) (hw _ w_73) (hw _ w_74) (hw _ w_75) (hw _ w_76) (hw _ w_77) (hw _ w_78) (hw _ w_51) (by decide) ((cSCh_4_3 l Z a0 hw [] x zc fm c0 c1 c2 c3 h0 n0 Z0 OLD SA SH SL CS hzc SFm rfm X_x).back D376 0 (hw _ w_79) (hw _ w_8) (by decide) (by decide)) X_x.exa rfl [(.int (3 : Int32))] rfl (lenOf pd_16 rfl) rfl (Nat.le_of_eq rfl) (by decide) (by decide) d_prog_29m2_53 rfl ?_
        intro v377 T377 q377 D377
        subst q377
        show Go p e below _ (T377.setTop (mkF m 58 #[.val (.ref x), .val (.int (4 : Int32)), .val (.int (3 : Int32)), .val (.int (1 : Int32)), .val (.int (1 : Int32)), .val (.int c2)] [(.int c3)]))
        refine g_istore D377 60 #[.val (.ref x), .val (.int (4 : Int32)), .val (.int (3 : Int32)), .val (.int (1 : Int32)), .val (.int (1 : Int32)), .val (.int c3)] d_prog_29m2_58 rfl rfl ?_
        refine g_iload D377 62 d_prog_29m2_60 rfl rfl ?_
        refine g_bipush D377 64 (48 : Int32) d_prog_29m2_62 rfl rfl ?_
        by_cases zA3 : c3 < (48 : Int32)
        · refine g_icmpY D377 79 d_prog_29m2_64 (tlt zA3).1 (by decide) (by decide) ?_
          refine g_iload D377 81 d_prog_29m2_79 rfl rfl ?_
          refine g_bipush D377 83 (46 : Int32) d_prog_29m2_81 rfl rfl ?_
          by_cases zB3 : c3 = (46 : Int32)
          · refine g_icmpN D377 86 d_prog_29m2_83 (teq zB3).2 rfl ?_
            have k3 := cls_p zA3 zB3
            refine g_iload D377 88 d_prog_29m2_86 rfl rfl ?_
            refine g_ifY D377 97 d_prog_29m2_88 (by decide) (by decide) (by decide) ?_
            refine g_iconst D377 98 (0 : Int32) d_prog_29m2_97 rfl rfl ?_
            exact r_N D377 hret (by simp) hlk d_prog_29m2_98 ⟨congrArg (fun z => some (Value.int z)) (own_nar0.trans ((if_neg sg).trans (own_l43 k0 k1 k2 k3)).symm), rfl, rfl⟩ (by decide) (by decide)
          refine g_icmpY D377 97 d_prog_29m2_83 (feq zB3).2 (by decide) (by decide) ?_
          have k3 := cls_l zA3 zB3
          refine g_iconst D377 98 (0 : Int32) d_prog_29m2_97 rfl rfl ?_
          exact r_N D377 hret (by simp) hlk d_prog_29m2_98 ⟨congrArg (fun z => some (Value.int z)) (own_nar0.trans ((if_neg sg).trans (own_l44 k0 k1 k2 k3)).symm), rfl, rfl⟩ (by decide) (by decide)
        refine g_icmpN D377 67 d_prog_29m2_64 (flt zA3).1 rfl ?_
        refine g_iload D377 69 d_prog_29m2_67 rfl rfl ?_
        refine g_bipush D377 71 (57 : Int32) d_prog_29m2_69 rfl rfl ?_
        by_cases zC3 : (57 : Int32) < c3
        · refine g_icmpY D377 79 d_prog_29m2_71 (tlt zC3).2.2.1 (by decide) (by decide) ?_
          refine g_iload D377 81 d_prog_29m2_79 rfl rfl ?_
          refine g_bipush D377 83 (46 : Int32) d_prog_29m2_81 rfl rfl ?_
          by_cases zD3 : c3 = (46 : Int32)
          · exact (cls_no zC3 zD3).elim
          refine g_icmpY D377 97 d_prog_29m2_83 (feq zD3).2 (by decide) (by decide) ?_
          have k3 := cls_g zA3 zC3
          refine g_iconst D377 98 (0 : Int32) d_prog_29m2_97 rfl rfl ?_
          exact r_N D377 hret (by simp) hlk d_prog_29m2_98 ⟨congrArg (fun z => some (Value.int z)) (own_nar0.trans ((if_neg sg).trans (own_l44 k0 k1 k2 k3)).symm), rfl, rfl⟩ (by decide) (by decide)
        refine g_icmpN D377 74 d_prog_29m2_71 (flt zC3).2.2.1 rfl ?_
        have k3 := cls_d zA3 zC3
        refine g_iconst D377 75 (1 : Int32) d_prog_29m2_74 rfl rfl ?_
        refine g_istoreN D377 76 #[.val (.ref x), .val (.int (4 : Int32)), .val (.int (3 : Int32)), .val (.int (1 : Int32)), .val (.int (1 : Int32)), .val (.int c3)] d_prog_29m2_75 rfl rfl ?_
        refine g_goto D377 99 d_prog_29m2_76 (by decide) (by decide) ?_
        refine g_iinc D377 102 (1 : Int32) #[.val (.ref x), .val (.int (4 : Int32)), .val (.int ((3 : Int32) + (1 : Int32))), .val (.int (1 : Int32)), .val (.int (1 : Int32)), .val (.int c3)] d_prog_29m2_99 rfl rfl rfl rfl ?_
        rw [show ((3 : Int32) + (1 : Int32)) = (4 : Int32) from by decide]
        refine g_goto D377 46 d_prog_29m2_102 (by decide) (by decide) ?_
        refine g_iloadN D377 47 d_prog_29m2_46 rfl rfl ?_
        refine g_iloadN D377 48 d_prog_29m2_47 rfl rfl ?_
        refine g_icmpY D377 105 d_prog_29m2_48 (by decide) (by decide) (by decide) ?_
        refine g_iloadN D377 106 d_prog_29m2_105 rfl rfl ?_
        exact r_N D377 hret (by simp) hlk d_prog_29m2_106 ⟨congrArg (fun z => some (Value.int z)) (own_nar1.trans ((if_neg sg).trans (own_l45 k0 k1 k2 k3)).symm), rfl, rfl⟩ (by decide) (by decide)
      refine g_icmpY D375 97 d_prog_29m2_83 (feq zB1).2 (by decide) (by decide) ?_
      have k1 := cls_l zA1 zB1
      refine g_iconst D375 98 (0 : Int32) d_prog_29m2_97 rfl rfl ?_
      exact r_N D375 hret (by simp) hlk d_prog_29m2_98 ⟨congrArg (fun z => some (Value.int z)) (own_nar0.trans ((if_neg sg).trans (own_l46 k0 k1)).symm), rfl, rfl⟩ (by decide) (by decide)
    refine g_icmpN D375 67 d_prog_29m2_64 (flt zA1).1 rfl ?_
    refine g_iload D375 69 d_prog_29m2_67 rfl rfl ?_
    refine g_bipush D375 71 (57 : Int32) d_prog_29m2_69 rfl rfl ?_
    by_cases zC1 : (57 : Int32) < c1
    · refine g_icmpY D375 79 d_prog_29m2_71 (tlt zC1).2.2.1 (by decide) (by decide) ?_
      refine g_iload D375 81 d_prog_29m2_79 rfl rfl ?_
      refine g_bipush D375 83 (46 : Int32) d_prog_29m2_81 rfl rfl ?_
      by_cases zD1 : c1 = (46 : Int32)
      · exact (cls_no zC1 zD1).elim
      refine g_icmpY D375 97 d_prog_29m2_83 (feq zD1).2 (by decide) (by decide) ?_
      have k1 := cls_g zA1 zC1
      refine g_iconst D375 98 (0 : Int32) d_prog_29m2_97 rfl rfl ?_
      exact r_N D375 hret (by simp) hlk d_prog_29m2_98 ⟨congrArg (fun z => some (Value.int z)) (own_nar0.trans ((if_neg sg).trans (own_l46 k0 k1)).symm), rfl, rfl⟩ (by decide) (by decide)
    refine g_icmpN D375 74 d_prog_29m2_71 (flt zC1).2.2.1 rfl ?_
    have k1 := cls_d zA1 zC1
    refine g_iconst D375 75 (1 : Int32) d_prog_29m2_74 rfl rfl ?_
    refine g_istoreN D375 76 #[.val (.ref x), .val (.int (4 : Int32)), .val (.int (1 : Int32)), .val (.int (1 : Int32)), .val (.int (0 : Int32)), .val (.int c1)] d_prog_29m2_75 rfl rfl ?_
    refine g_goto D375 99 d_prog_29m2_76 (by decide) (by decide) ?_
    refine g_iinc D375 102 (1 : Int32) #[.val (.ref x), .val (.int (4 : Int32)), .val (.int ((1 : Int32) + (1 : Int32))), .val (.int (1 : Int32)), .val (.int (0 : Int32)), .val (.int c1)] d_prog_29m2_99 rfl rfl rfl rfl ?_
    rw [show ((1 : Int32) + (1 : Int32)) = (2 : Int32) from by decide]
    refine g_goto D375 46 d_prog_29m2_102 (by decide) (by decide) ?_
    refine g_iloadN D375 47 d_prog_29m2_46 rfl rfl ?_
    refine g_iloadN D375 48 d_prog_29m2_47 rfl rfl ?_
    refine g_icmpN D375 51 d_prog_29m2_48 (by decide) rfl ?_
    refine g_aloadN D375 52 d_prog_29m2_51 rfl rfl rfl ?_
    refine g_iloadN D375 53 d_prog_29m2_52 rfl rfl ?_
    refine g_callIp D375 58 (hw _ w_72) (hw _ w_73) (hw _ w_74) (hw _ w_75) (hw _ w_76) (hw _ w_77) (hw _ w_78) (hw _ w_51) (by decide) ((cSCh_4_2 l Z a0 hw [] x zc fm c0 c1 c2 c3 h0 n0 Z0 OLD SA SH SL CS hzc SFm rfm X_x).back D375 0 (hw _ w_79) (hw _ w_8) (by decide) (by decide)) X_x.exa rfl [(.int (2 : Int32))] rfl (lenOf pd_16 rfl) rfl (Nat.le_of_eq rfl) (by decide) (by decide) d_prog_29m2_53 rfl ?_
    intro v378 T378 q378 D378
    subst q378
    show Go p e below _ (T378.setTop (mkF m 58 #[.val (.ref x), .val (.int (4 : Int32)), .val (.int (2 : Int32)), .val (.int (1 : Int32)), .val (.int (0 : Int32)), .val (.int c1)] [(.int c2)]))
    refine g_istore D378 60 #[.val (.ref x), .val (.int (4 : Int32)), .val (.int (2 : Int32)), .val (.int (1 : Int32)), .val (.int (0 : Int32)), .val (.int c2)] d_prog_29m2_58 rfl rfl ?_
    refine g_iload D378 62 d_prog_29m2_60 rfl rfl ?_
    refine g_bipush D378 64 (48 : Int32) d_prog_29m2_62 rfl rfl ?_
    by_cases zA2 : c2 < (48 : Int32)
    · refine g_icmpY D378 79 d_prog_29m2_64 (tlt zA2).1 (by decide) (by decide) ?_
      refine g_iload D378 81 d_prog_29m2_79 rfl rfl ?_
      refine g_bipush D378 83 (46 : Int32) d_prog_29m2_81 rfl rfl ?_
      by_cases zB2 : c2 = (46 : Int32)
      · refine g_icmpN D378 86 d_prog_29m2_83 (teq zB2).2 rfl ?_
        have k2 := cls_p zA2 zB2
        refine g_iload D378 88 d_prog_29m2_86 rfl rfl ?_
        refine g_ifN D378 91 d_prog_29m2_88 (by decide) rfl ?_
        refine g_iconst D378 92 (1 : Int32) d_prog_29m2_91 rfl rfl ?_
        refine g_istore D378 94 #[.val (.ref x), .val (.int (4 : Int32)), .val (.int (2 : Int32)), .val (.int (1 : Int32)), .val (.int (1 : Int32)), .val (.int c2)] d_prog_29m2_92 rfl rfl ?_
        refine g_goto D378 99 d_prog_29m2_94 (by decide) (by decide) ?_
        refine g_iinc D378 102 (1 : Int32) #[.val (.ref x), .val (.int (4 : Int32)), .val (.int ((2 : Int32) + (1 : Int32))), .val (.int (1 : Int32)), .val (.int (1 : Int32)), .val (.int c2)] d_prog_29m2_99 rfl rfl rfl rfl ?_
        rw [show ((2 : Int32) + (1 : Int32)) = (3 : Int32) from by decide]
        refine g_goto D378 46 d_prog_29m2_102 (by decide) (by decide) ?_
        refine g_iloadN D378 47 d_prog_29m2_46 rfl rfl ?_
        refine g_iloadN D378 48 d_prog_29m2_47 rfl rfl ?_
        refine g_icmpN D378 51 d_prog_29m2_48 (by decide) rfl ?_
        refine g_aloadN D378 52 d_prog_29m2_51 rfl rfl rfl ?_
        refine g_iloadN D378 53 d_prog_29m2_52 rfl rfl ?_
        refine g_callIp D378 58 (hw _ w_72) (hw _ w_73) (hw _ w_74) (hw _ w_75) (hw _ w_76) (hw _ w_77) (hw _ w_78) (hw _ w_51) (by decide) ((cSCh_4_3 l Z a0 hw [] x zc fm c0 c1 c2 c3 h0 n0 Z0 OLD SA SH SL CS hzc SFm rfm X_x).back D378 0 (hw _ w_79) (hw _ w_8) (by decide) (by decide)) X_x.exa rfl [(.int (3 : Int32))] rfl (lenOf pd_16 rfl) rfl (Nat.le_of_eq rfl) (by decide) (by decide) d_prog_29m2_53 rfl ?_
        intro v379 T379 q379 D379
        subst q379
        show Go p e below _ (T379.setTop (mkF m 58 #[.val (.ref x), .val (.int (4 : Int32)), .val (.int (3 : Int32)), .val (.int (1 : Int32)), .val (.int (1 : Int32)), .val (.int c2)] [(.int c3)]))
        refine g_istore D379 60 #[.val (.ref x), .val (.int (4 : Int32)), .val (.int (3 : Int32)), .val (.int (1 : Int32)), .val (.int (1 : Int32)), .val (.int c3)] d_prog_29m2_58 rfl rfl ?_
        refine g_iload D379 62 d_prog_29m2_60 rfl rfl ?_
        refine g_bipush D379 64 (48 : Int32) d_prog_29m2_62 rfl rfl ?_
        by_cases zA3 : c3 < (48 : Int32)
        · refine g_icmpY D379 79 d_prog_29m2_64 (tlt zA3).1 (by decide) (by decide) ?_
          refine g_iload D379 81 d_prog_29m2_79 rfl rfl ?_
          refine g_bipush D379 83 (46 : Int32) d_prog_29m2_81 rfl rfl ?_
          by_cases zB3 : c3 = (46 : Int32)
          · refine g_icmpN D379 86 d_prog_29m2_83 (teq zB3).2 rfl ?_
            have k3 := cls_p zA3 zB3
            refine g_iload D379 88 d_prog_29m2_86 rfl rfl ?_
            refine g_ifY D379 97 d_prog_29m2_88 (by decide) (by decide) (by decide) ?_
            refine g_iconst D379 98 (0 : Int32) d_prog_29m2_97 rfl rfl ?_
            exact r_N D379 hret (by simp) hlk d_prog_29m2_98 ⟨congrArg (fun z => some (Value.int z)) (own_nar0.trans ((if_neg sg).trans (own_l47 k0 k1 k2 k3)).symm), rfl, rfl⟩ (by decide) (by decide)
          refine g_icmpY D379 97 d_prog_29m2_83 (feq zB3).2 (by decide) (by decide) ?_
          have k3 := cls_l zA3 zB3
          refine g_iconst D379 98 (0 : Int32) d_prog_29m2_97 rfl rfl ?_
          exact r_N D379 hret (by simp) hlk d_prog_29m2_98 ⟨congrArg (fun z => some (Value.int z)) (own_nar0.trans ((if_neg sg).trans (own_l48 k0 k1 k2 k3)).symm), rfl, rfl⟩ (by decide) (by decide)
        refine g_icmpN D379 67 d_prog_29m2_64 (flt zA3).1 rfl ?_
        refine g_iload D379 69 d_prog_29m2_67 rfl rfl ?_
        refine g_bipush D379 71 (57 : Int32) d_prog_29m2_69 rfl rfl ?_
        by_cases zC3 : (57 : Int32) < c3
        · refine g_icmpY D379 79 d_prog_29m2_71 (tlt zC3).2.2.1 (by decide) (by decide) ?_
          refine g_iload D379 81 d_prog_29m2_79 rfl rfl ?_
          refine g_bipush D379 83 (46 : Int32) d_prog_29m2_81 rfl rfl ?_
          by_cases zD3 : c3 = (46 : Int32)
          · exact (cls_no zC3 zD3).elim
          refine g_icmpY D379 97 d_prog_29m2_83 (feq zD3).2 (by decide) (by decide) ?_
          have k3 := cls_g zA3 zC3
          refine g_iconst D379 98 (0 : Int32) d_prog_29m2_97 rfl rfl ?_
          exact r_N D379 hret (by simp) hlk d_prog_29m2_98 ⟨congrArg (fun z => some (Value.int z)) (own_nar0.trans ((if_neg sg).trans (own_l48 k0 k1 k2 k3)).symm), rfl, rfl⟩ (by decide) (by decide)
        refine g_icmpN D379 74 d_prog_29m2_71 (flt zC3).2.2.1 rfl ?_
        have k3 := cls_d zA3 zC3
        refine g_iconst D379 75 (1 : Int32) d_prog_29m2_74 rfl rfl ?_
        refine g_istoreN D379 76 #[.val (.ref x), .val (.int (4 : Int32)), .val (.int (3 : Int32)), .val (.int (1 : Int32)), .val (.int (1 : Int32)), .val (.int c3)] d_prog_29m2_75 rfl rfl ?_
        refine g_goto D379 99 d_prog_29m2_76 (by decide) (by decide) ?_
        refine g_iinc D379 102 (1 : Int32) #[.val (.ref x), .val (.int (4 : Int32)), .val (.int ((3 : Int32) + (1 : Int32))), .val (.int (1 : Int32)), .val (.int (1 : Int32)), .val (.int c3)] d_prog_29m2_99 rfl rfl rfl rfl ?_
        rw [show ((3 : Int32) + (1 : Int32)) = (4 : Int32) from by decide]
        refine g_goto D379 46 d_prog_29m2_102 (by decide) (by decide) ?_
        refine g_iloadN D379 47 d_prog_29m2_46 rfl rfl ?_
        refine g_iloadN D379 48 d_prog_29m2_47 rfl rfl ?_
        refine g_icmpY D379 105 d_prog_29m2_48 (by decide) (by decide) (by decide) ?_
        refine g_iloadN D379 106 d_prog_29m2_105 rfl rfl ?_
        exact r_N D379 hret (by simp) hlk d_prog_29m2_106 ⟨congrArg (fun z => some (Value.int z)) (own_nar1.trans ((if_neg sg).trans (own_l49 k0 k1 k2 k3)).symm), rfl, rfl⟩ (by decide) (by decide)
      refine g_icmpY D378 97 d_prog_29m2_83 (feq zB2).2 (by decide) (by decide) ?_
      have k2 := cls_l zA2 zB2
      refine g_iconst D378 98 (0 : Int32) d_prog_29m2_97 rfl rfl ?_
      exact r_N D378 hret (by simp) hlk d_prog_29m2_98 ⟨congrArg (fun z => some (Value.int z)) (own_nar0.trans ((if_neg sg).trans (own_l50 k0 k1 k2)).symm), rfl, rfl⟩ (by decide) (by decide)
    refine g_icmpN D378 67 d_prog_29m2_64 (flt zA2).1 rfl ?_
    refine g_iload D378 69 d_prog_29m2_67 rfl rfl ?_
    refine g_bipush D378 71 (57 : Int32) d_prog_29m2_69 rfl rfl ?_
    by_cases zC2 : (57 : Int32) < c2
    · refine g_icmpY D378 79 d_prog_29m2_71 (tlt zC2).2.2.1 (by decide) (by decide) ?_
      refine g_iload D378 81 d_prog_29m2_79 rfl rfl ?_
      refine g_bipush D378 83 (46 : Int32) d_prog_29m2_81 rfl rfl ?_
      by_cases zD2 : c2 = (46 : Int32)
      · exact (cls_no zC2 zD2).elim
      refine g_icmpY D378 97 d_prog_29m2_83 (feq zD2).2 (by decide) (by decide) ?_
      have k2 := cls_g zA2 zC2
      refine g_iconst D378 98 (0 : Int32) d_prog_29m2_97 rfl rfl ?_
      exact r_N D378 hret (by simp) hlk d_prog_29m2_98 ⟨congrArg (fun z => some (Value.int z)) (own_nar0.trans ((if_neg sg).trans (own_l50 k0 k1 k2)).symm), rfl, rfl⟩ (by decide) (by decide)
    refine g_icmpN D378 74 d_prog_29m2_71 (flt zC2).2.2.1 rfl ?_
    have k2 := cls_d zA2 zC2
    refine g_iconst D378 75 (1 : Int32) d_prog_29m2_74 rfl rfl ?_
    refine g_istoreN D378 76 #[.val (.ref x), .val (.int (4 : Int32)), .val (.int (2 : Int32)), .val (.int (1 : Int32)), .val (.int (0 : Int32)), .val (.int c2)] d_prog_29m2_75 rfl rfl ?_
    refine g_goto D378 99 d_prog_29m2_76 (by decide) (by decide) ?_
    refine g_iinc D378 102 (1 : Int32) #[.val (.ref x), .val (.int (4 : Int32)), .val (.int ((2 : Int32) + (1 : Int32))), .val (.int (1 : Int32)), .val (.int (0 : Int32)), .val (.int c2)] d_prog_29m2_99 rfl rfl rfl rfl ?_
    rw [show ((2 : Int32) + (1 : Int32)) = (3 : Int32) from by decide]
    refine g_goto D378 46 d_prog_29m2_102 (by decide) (by decide) ?_
    refine g_iloadN D378 47 d_prog_29m2_46 rfl rfl ?_
    refine g_iloadN D378 48 d_prog_29m2_47 rfl rfl ?_
    refine g_icmpN D378 51 d_prog_29m2_48 (by decide) rfl ?_
    refine g_aloadN D378 52 d_prog_29m2_51 rfl rfl rfl ?_
    refine g_iloadN D378 53 d_prog_29m2_52 rfl rfl ?_
    refine g_callIp D378 58 (hw _ w_72) (hw _ w_73) (hw _ w_74) (hw _ w_75) (hw _ w_76) (hw _ w_77) (hw _ w_78) (hw _ w_51) (by decide) ((cSCh_4_3 l Z a0 hw [] x zc fm c0 c1 c2 c3 h0 n0 Z0 OLD SA SH SL CS hzc SFm rfm X_x).back D378 0 (hw _ w_79) (hw _ w_8) (by decide) (by decide)) X_x.exa rfl [(.int (3 : Int32))] rfl (lenOf pd_16 rfl) rfl (Nat.le_of_eq rfl) (by decide) (by decide) d_prog_29m2_53 rfl ?_
    intro v380 T380 q380 D380
    subst q380
    show Go p e below _ (T380.setTop (mkF m 58 #[.val (.ref x), .val (.int (4 : Int32)), .val (.int (3 : Int32)), .val (.int (1 : Int32)), .val (.int (0 : Int32)), .val (.int c2)] [(.int c3)]))
    refine g_istore D380 60 #[.val (.ref x), .val (.int (4 : Int32)), .val (.int (3 : Int32)), .val (.int (1 : Int32)), .val (.int (0 : Int32)), .val (.int c3)] d_prog_29m2_58 rfl rfl ?_
    refine g_iload D380 62 d_prog_29m2_60 rfl rfl ?_
    refine g_bipush D380 64 (48 : Int32) d_prog_29m2_62 rfl rfl ?_
    by_cases zA3 : c3 < (48 : Int32)
    · refine g_icmpY D380 79 d_prog_29m2_64 (tlt zA3).1 (by decide) (by decide) ?_
      refine g_iload D380 81 d_prog_29m2_79 rfl rfl ?_
      refine g_bipush D380 83 (46 : Int32) d_prog_29m2_81 rfl rfl ?_
      by_cases zB3 : c3 = (46 : Int32)
      · refine g_icmpN D380 86 d_prog_29m2_83 (teq zB3).2 rfl ?_
        have k3 := cls_p zA3 zB3
        refine g_iload D380 88 d_prog_29m2_86 rfl rfl ?_
        refine g_ifN D380 91 d_prog_29m2_88 (by decide) rfl ?_
        refine g_iconst D380 92 (1 : Int32) d_prog_29m2_91 rfl rfl ?_
        refine g_istore D380 94 #[.val (.ref x), .val (.int (4 : Int32)), .val (.int (3 : Int32)), .val (.int (1 : Int32)), .val (.int (1 : Int32)), .val (.int c3)] d_prog_29m2_92 rfl rfl ?_
        refine g_goto D380 99 d_prog_29m2_94 (by decide) (by decide) ?_
        refine g_iinc D380 102 (1 : Int32) #[.val (.ref x), .val (.int (4 : Int32)), .val (.int ((3 : Int32) + (1 : Int32))), .val (.int (1 : Int32)), .val (.int (1 : Int32)), .val (.int c3)] d_prog_29m2_99 rfl rfl rfl rfl ?_
        rw [show ((3 : Int32) + (1 : Int32)) = (4 : Int32) from by decide]
        refine g_goto D380 46 d_prog_29m2_102 (by decide) (by decide) ?_
        refine g_iloadN D380 47 d_prog_29m2_46 rfl rfl ?_
        refine g_iloadN D380 48 d_prog_29m2_47 rfl rfl ?_
        refine g_icmpY D380 105 d_prog_29m2_48 (by decide) (by decide) (by decide) ?_
        refine g_iloadN D380 106 d_prog_29m2_105 rfl rfl ?_
        exact r_N D380 hret (by simp) hlk d_prog_29m2_106 ⟨congrArg (fun z => some (Value.int z)) (own_nar1.trans ((if_neg sg).trans (own_l51 k0 k1 k2 k3)).symm), rfl, rfl⟩ (by decide) (by decide)
      refine g_icmpY D380 97 d_prog_29m2_83 (feq zB3).2 (by decide) (by decide) ?_
      have k3 := cls_l zA3 zB3
      refine g_iconst D380 98 (0 : Int32) d_prog_29m2_97 rfl rfl ?_
      exact r_N D380 hret (by simp) hlk d_prog_29m2_98 ⟨congrArg (fun z => some (Value.int z)) (own_nar0.trans ((if_neg sg).trans (own_l52 k0 k1 k2 k3)).symm), rfl, rfl⟩ (by decide) (by decide)
    refine g_icmpN D380 67 d_prog_29m2_64 (flt zA3).1 rfl ?_
    refine g_iload D380 69 d_prog_29m2_67 rfl rfl ?_
    refine g_bipush D380 71 (57 : Int32) d_prog_29m2_69 rfl rfl ?_
    by_cases zC3 : (57 : Int32) < c3
    · refine g_icmpY D380 79 d_prog_29m2_71 (tlt zC3).2.2.1 (by decide) (by decide) ?_
      refine g_iload D380 81 d_prog_29m2_79 rfl rfl ?_
      refine g_bipush D380 83 (46 : Int32) d_prog_29m2_81 rfl rfl ?_
      by_cases zD3 : c3 = (46 : Int32)
      · exact (cls_no zC3 zD3).elim
      refine g_icmpY D380 97 d_prog_29m2_83 (feq zD3).2 (by decide) (by decide) ?_
      have k3 := cls_g zA3 zC3
      refine g_iconst D380 98 (0 : Int32) d_prog_29m2_97 rfl rfl ?_
      exact r_N D380 hret (by simp) hlk d_prog_29m2_98 ⟨congrArg (fun z => some (Value.int z)) (own_nar0.trans ((if_neg sg).trans (own_l52 k0 k1 k2 k3)).symm), rfl, rfl⟩ (by decide) (by decide)
    refine g_icmpN D380 74 d_prog_29m2_71 (flt zC3).2.2.1 rfl ?_
    have k3 := cls_d zA3 zC3
    refine g_iconst D380 75 (1 : Int32) d_prog_29m2_74 rfl rfl ?_
    refine g_istoreN D380 76 #[.val (.ref x), .val (.int (4 : Int32)), .val (.int (3 : Int32)), .val (.int (1 : Int32)), .val (.int (0 : Int32)), .val (.int c3)] d_prog_29m2_75 rfl rfl ?_
    refine g_goto D380 99 d_prog_29m2_76 (by decide) (by decide) ?_
    refine g_iinc D380 102 (1 : Int32) #[.val (.ref x), .val (.int (4 : Int32)), .val (.int ((3 : Int32) + (1 : Int32))), .val (.int (1 : Int32)), .val (.int (0 : Int32)), .val (.int c3)] d_prog_29m2_99 rfl rfl rfl rfl ?_
    rw [show ((3 : Int32) + (1 : Int32)) = (4 : Int32) from by decide]
    refine g_goto D380 46 d_prog_29m2_102 (by decide) (by decide) ?_
    refine g_iloadN D380 47 d_prog_29m2_46 rfl rfl ?_
    refine g_iloadN D380 48 d_prog_29m2_47 rfl rfl ?_
    refine g_icmpY D380 105 d_prog_29m2_48 (by decide) (by decide) (by decide) ?_
    refine g_iloadN D380 106 d_prog_29m2_105 rfl rfl ?_
    exact r_N D380 hret (by simp) hlk d_prog_29m2_106 ⟨congrArg (fun z => some (Value.int z)) (own_nar1.trans ((if_neg sg).trans (own_l53 k0 k1 k2 k3)).symm), rfl, rfl⟩ (by decide) (by decide)
  intro TJ DJ sg
  show Go p e below _ (TJ.setTop (mkF m 40 #[.val (.ref x), .val (.int (4 : Int32)), .unset, .unset, .unset, .unset] [(.int (1 : Int32))]))
  refine g_istoreN DJ 41 #[.val (.ref x), .val (.int (4 : Int32)), .val (.int (1 : Int32)), .unset, .unset, .unset] d_prog_29m2_40 rfl rfl ?_
  refine g_iconst DJ 42 (0 : Int32) d_prog_29m2_41 rfl rfl ?_
  refine g_istoreN DJ 43 #[.val (.ref x), .val (.int (4 : Int32)), .val (.int (1 : Int32)), .val (.int (0 : Int32)), .unset, .unset] d_prog_29m2_42 rfl rfl ?_
  refine g_iconst DJ 44 (0 : Int32) d_prog_29m2_43 rfl rfl ?_
  refine g_istore DJ 46 #[.val (.ref x), .val (.int (4 : Int32)), .val (.int (1 : Int32)), .val (.int (0 : Int32)), .val (.int (0 : Int32)), .unset] d_prog_29m2_44 rfl rfl ?_
  refine g_iloadN DJ 47 d_prog_29m2_46 rfl rfl ?_
  refine g_iloadN DJ 48 d_prog_29m2_47 rfl rfl ?_
  refine g_icmpN DJ 51 d_prog_29m2_48 (by decide) rfl ?_
  refine g_aloadN DJ 52 d_prog_29m2_51 rfl rfl rfl ?_
  refine g_iloadN DJ 53 d_prog_29m2_52 rfl rfl ?_
  refine g_callIp DJ 58 (hw _ w_72) (hw _ w_73) (hw _ w_74) (hw _ w_75) (hw _ w_76) (hw _ w_77) (hw _ w_78) (hw _ w_51) (by decide) ((cSCh_4_1 l Z a0 hw [] x zc fm c0 c1 c2 c3 h0 n0 Z0 OLD SA SH SL CS hzc SFm rfm X_x).back DJ 0 (hw _ w_79) (hw _ w_8) (by decide) (by decide)) X_x.exa rfl [(.int (1 : Int32))] rfl (lenOf pd_16 rfl) rfl (Nat.le_of_eq rfl) (by decide) (by decide) d_prog_29m2_53 rfl ?_
  intro v381 T381 q381 D381
  subst q381
  show Go p e below _ (T381.setTop (mkF m 58 #[.val (.ref x), .val (.int (4 : Int32)), .val (.int (1 : Int32)), .val (.int (0 : Int32)), .val (.int (0 : Int32)), .unset] [(.int c1)]))
  refine g_istore D381 60 #[.val (.ref x), .val (.int (4 : Int32)), .val (.int (1 : Int32)), .val (.int (0 : Int32)), .val (.int (0 : Int32)), .val (.int c1)] d_prog_29m2_58 rfl rfl ?_
  refine g_iload D381 62 d_prog_29m2_60 rfl rfl ?_
  refine g_bipush D381 64 (48 : Int32) d_prog_29m2_62 rfl rfl ?_
  by_cases zA1 : c1 < (48 : Int32)
  · refine g_icmpY D381 79 d_prog_29m2_64 (tlt zA1).1 (by decide) (by decide) ?_
    refine g_iload D381 81 d_prog_29m2_79 rfl rfl ?_
    refine g_bipush D381 83 (46 : Int32) d_prog_29m2_81 rfl rfl ?_
    by_cases zB1 : c1 = (46 : Int32)
    · refine g_icmpN D381 86 d_prog_29m2_83 (teq zB1).2 rfl ?_
      have k1 := cls_p zA1 zB1
      refine g_iload D381 88 d_prog_29m2_86 rfl rfl ?_
      refine g_ifN D381 91 d_prog_29m2_88 (by decide) rfl ?_
      refine g_iconst D381 92 (1 : Int32) d_prog_29m2_91 rfl rfl ?_
      refine g_istore D381 94 #[.val (.ref x), .val (.int (4 : Int32)), .val (.int (1 : Int32)), .val (.int (0 : Int32)), .val (.int (1 : Int32)), .val (.int c1)] d_prog_29m2_92 rfl rfl ?_
      refine g_goto D381 99 d_prog_29m2_94 (by decide) (by decide) ?_
      refine g_iinc D381 102 (1 : Int32) #[.val (.ref x), .val (.int (4 : Int32)), .val (.int ((1 : Int32) + (1 : Int32))), .val (.int (0 : Int32)), .val (.int (1 : Int32)), .val (.int c1)] d_prog_29m2_99 rfl rfl rfl rfl ?_
      rw [show ((1 : Int32) + (1 : Int32)) = (2 : Int32) from by decide]
      refine g_goto D381 46 d_prog_29m2_102 (by decide) (by decide) ?_
      refine g_iloadN D381 47 d_prog_29m2_46 rfl rfl ?_
      refine g_iloadN D381 48 d_prog_29m2_47 rfl rfl ?_
      refine g_icmpN D381 51 d_prog_29m2_48 (by decide) rfl ?_
      refine g_aloadN D381 52 d_prog_29m2_51 rfl rfl rfl ?_
      refine g_iloadN D381 53 d_prog_29m2_52 rfl rfl ?_
      refine g_callIp D381 58 (hw _ w_72) (hw _ w_73) (hw _ w_74) (hw _ w_75) (hw _ w_76) (hw _ w_77) (hw _ w_78) (hw _ w_51) (by decide) ((cSCh_4_2 l Z a0 hw [] x zc fm c0 c1 c2 c3 h0 n0 Z0 OLD SA SH SL CS hzc SFm rfm X_x).back D381 0 (hw _ w_79) (hw _ w_8) (by decide) (by decide)) X_x.exa rfl [(.int (2 : Int32))] rfl (lenOf pd_16 rfl) rfl (Nat.le_of_eq rfl) (by decide) (by decide) d_prog_29m2_53 rfl ?_
      intro v382 T382 q382 D382
      subst q382
      show Go p e below _ (T382.setTop (mkF m 58 #[.val (.ref x), .val (.int (4 : Int32)), .val (.int (2 : Int32)), .val (.int (0 : Int32)), .val (.int (1 : Int32)), .val (.int c1)] [(.int c2)]))
      refine g_istore D382 60 #[.val (.ref x), .val (.int (4 : Int32)), .val (.int (2 : Int32)), .val (.int (0 : Int32)), .val (.int (1 : Int32)), .val (.int c2)] d_prog_29m2_58 rfl rfl ?_
      refine g_iload D382 62 d_prog_29m2_60 rfl rfl ?_
      refine g_bipush D382 64 (48 : Int32) d_prog_29m2_62 rfl rfl ?_
      by_cases zA2 : c2 < (48 : Int32)
      · refine g_icmpY D382 79 d_prog_29m2_64 (tlt zA2).1 (by decide) (by decide) ?_
        refine g_iload D382 81 d_prog_29m2_79 rfl rfl ?_
        refine g_bipush D382 83 (46 : Int32) d_prog_29m2_81 rfl rfl ?_
        by_cases zB2 : c2 = (46 : Int32)
        · refine g_icmpN D382 86 d_prog_29m2_83 (teq zB2).2 rfl ?_
          have k2 := cls_p zA2 zB2
          refine g_iload D382 88 d_prog_29m2_86 rfl rfl ?_
          refine g_ifY D382 97 d_prog_29m2_88 (by decide) (by decide) (by decide) ?_
          refine g_iconst D382 98 (0 : Int32) d_prog_29m2_97 rfl rfl ?_
          exact r_N D382 hret (by simp) hlk d_prog_29m2_98 ⟨congrArg (fun z => some (Value.int z)) (own_nar0.trans ((if_pos sg).trans (own_l54 k1 k2)).symm), rfl, rfl⟩ (by decide) (by decide)
        refine g_icmpY D382 97 d_prog_29m2_83 (feq zB2).2 (by decide) (by decide) ?_
        have k2 := cls_l zA2 zB2
        refine g_iconst D382 98 (0 : Int32) d_prog_29m2_97 rfl rfl ?_
        exact r_N D382 hret (by simp) hlk d_prog_29m2_98 ⟨congrArg (fun z => some (Value.int z)) (own_nar0.trans ((if_pos sg).trans (own_l55 k1 k2)).symm), rfl, rfl⟩ (by decide) (by decide)
      refine g_icmpN D382 67 d_prog_29m2_64 (flt zA2).1 rfl ?_
      refine g_iload D382 69 d_prog_29m2_67 rfl rfl ?_
      refine g_bipush D382 71 (57 : Int32) d_prog_29m2_69 rfl rfl ?_
      by_cases zC2 : (57 : Int32) < c2
      · refine g_icmpY D382 79 d_prog_29m2_71 (tlt zC2).2.2.1 (by decide) (by decide) ?_
        refine g_iload D382 81 d_prog_29m2_79 rfl rfl ?_
        refine g_bipush D382 83 (46 : Int32) d_prog_29m2_81 rfl rfl ?_
        by_cases zD2 : c2 = (46 : Int32)
        · exact (cls_no zC2 zD2).elim
        refine g_icmpY D382 97 d_prog_29m2_83 (feq zD2).2 (by decide) (by decide) ?_
        have k2 := cls_g zA2 zC2
        refine g_iconst D382 98 (0 : Int32) d_prog_29m2_97 rfl rfl ?_
        exact r_N D382 hret (by simp) hlk d_prog_29m2_98 ⟨congrArg (fun z => some (Value.int z)) (own_nar0.trans ((if_pos sg).trans (own_l55 k1 k2)).symm), rfl, rfl⟩ (by decide) (by decide)
      refine g_icmpN D382 74 d_prog_29m2_71 (flt zC2).2.2.1 rfl ?_
      have k2 := cls_d zA2 zC2
      refine g_iconst D382 75 (1 : Int32) d_prog_29m2_74 rfl rfl ?_
      refine g_istoreN D382 76 #[.val (.ref x), .val (.int (4 : Int32)), .val (.int (2 : Int32)), .val (.int (1 : Int32)), .val (.int (1 : Int32)), .val (.int c2)] d_prog_29m2_75 rfl rfl ?_
      refine g_goto D382 99 d_prog_29m2_76 (by decide) (by decide) ?_
      refine g_iinc D382 102 (1 : Int32) #[.val (.ref x), .val (.int (4 : Int32)), .val (.int ((2 : Int32) + (1 : Int32))), .val (.int (1 : Int32)), .val (.int (1 : Int32)), .val (.int c2)] d_prog_29m2_99 rfl rfl rfl rfl ?_
      rw [show ((2 : Int32) + (1 : Int32)) = (3 : Int32) from by decide]
      refine g_goto D382 46 d_prog_29m2_102 (by decide) (by decide) ?_
      refine g_iloadN D382 47 d_prog_29m2_46 rfl rfl ?_
      refine g_iloadN D382 48 d_prog_29m2_47 rfl rfl ?_
      refine g_icmpN D382 51 d_prog_29m2_48 (by decide) rfl ?_
      refine g_aloadN D382 52 d_prog_29m2_51 rfl rfl rfl ?_
      refine g_iloadN D382 53 d_prog_29m2_52 rfl rfl ?_
      refine g_callIp D382 58 (hw _ w_72) (hw _ w_73) (hw _ w_74) (hw _ w_75) (hw _ w_76) (hw _ w_77) (hw _ w_78) (hw _ w_51) (by decide) ((cSCh_4_3 l Z a0 hw [] x zc fm c0 c1 c2 c3 h0 n0 Z0 OLD SA SH SL CS hzc SFm rfm X_x).back D382 0 (hw _ w_79) (hw _ w_8) (by decide) (by decide)) X_x.exa rfl [(.int (3 : Int32))] rfl (lenOf pd_16 rfl) rfl (Nat.le_of_eq rfl) (by decide) (by decide) d_prog_29m2_53 rfl ?_
      intro v383 T383 q383 D383
      subst q383
      show Go p e below _ (T383.setTop (mkF m 58 #[.val (.ref x), .val (.int (4 : Int32)), .val (.int (3 : Int32)), .val (.int (1 : Int32)), .val (.int (1 : Int32)), .val (.int c2)] [(.int c3)]))
      refine g_istore D383 60 #[.val (.ref x), .val (.int (4 : Int32)), .val (.int (3 : Int32)), .val (.int (1 : Int32)), .val (.int (1 : Int32)), .val (.int c3)] d_prog_29m2_58 rfl rfl ?_
      refine g_iload D383 62 d_prog_29m2_60 rfl rfl ?_
      refine g_bipush D383 64 (48 : Int32) d_prog_29m2_62 rfl rfl ?_
      by_cases zA3 : c3 < (48 : Int32)
      · refine g_icmpY D383 79 d_prog_29m2_64 (tlt zA3).1 (by decide) (by decide) ?_
        refine g_iload D383 81 d_prog_29m2_79 rfl rfl ?_
        refine g_bipush D383 83 (46 : Int32) d_prog_29m2_81 rfl rfl ?_
        by_cases zB3 : c3 = (46 : Int32)
        · refine g_icmpN D383 86 d_prog_29m2_83 (teq zB3).2 rfl ?_
          have k3 := cls_p zA3 zB3
          refine g_iload D383 88 d_prog_29m2_86 rfl rfl ?_
          refine g_ifY D383 97 d_prog_29m2_88 (by decide) (by decide) (by decide) ?_
          refine g_iconst D383 98 (0 : Int32) d_prog_29m2_97 rfl rfl ?_
          exact r_N D383 hret (by simp) hlk d_prog_29m2_98 ⟨congrArg (fun z => some (Value.int z)) (own_nar0.trans ((if_pos sg).trans (own_l56 k1 k2 k3)).symm), rfl, rfl⟩ (by decide) (by decide)
        refine g_icmpY D383 97 d_prog_29m2_83 (feq zB3).2 (by decide) (by decide) ?_
        have k3 := cls_l zA3 zB3
        refine g_iconst D383 98 (0 : Int32) d_prog_29m2_97 rfl rfl ?_
        exact r_N D383 hret (by simp) hlk d_prog_29m2_98 ⟨congrArg (fun z => some (Value.int z)) (own_nar0.trans ((if_pos sg).trans (own_l57 k1 k2 k3)).symm), rfl, rfl⟩ (by decide) (by decide)
      refine g_icmpN D383 67 d_prog_29m2_64 (flt zA3).1 rfl ?_
      refine g_iload D383 69 d_prog_29m2_67 rfl rfl ?_
      refine g_bipush D383 71 (57 : Int32) d_prog_29m2_69 rfl rfl ?_
      by_cases zC3 : (57 : Int32) < c3
      · refine g_icmpY D383 79 d_prog_29m2_71 (tlt zC3).2.2.1 (by decide) (by decide) ?_
        refine g_iload D383 81 d_prog_29m2_79 rfl rfl ?_
        refine g_bipush D383 83 (46 : Int32) d_prog_29m2_81 rfl rfl ?_
        by_cases zD3 : c3 = (46 : Int32)
        · exact (cls_no zC3 zD3).elim
        refine g_icmpY D383 97 d_prog_29m2_83 (feq zD3).2 (by decide) (by decide) ?_
        have k3 := cls_g zA3 zC3
        refine g_iconst D383 98 (0 : Int32) d_prog_29m2_97 rfl rfl ?_
        exact r_N D383 hret (by simp) hlk d_prog_29m2_98 ⟨congrArg (fun z => some (Value.int z)) (own_nar0.trans ((if_pos sg).trans (own_l57 k1 k2 k3)).symm), rfl, rfl⟩ (by decide) (by decide)
      refine g_icmpN D383 74 d_prog_29m2_71 (flt zC3).2.2.1 rfl ?_
      have k3 := cls_d zA3 zC3
      refine g_iconst D383 75 (1 : Int32) d_prog_29m2_74 rfl rfl ?_
      refine g_istoreN D383 76 #[.val (.ref x), .val (.int (4 : Int32)), .val (.int (3 : Int32)), .val (.int (1 : Int32)), .val (.int (1 : Int32)), .val (.int c3)] d_prog_29m2_75 rfl rfl ?_
      refine g_goto D383 99 d_prog_29m2_76 (by decide) (by decide) ?_
      refine g_iinc D383 102 (1 : Int32) #[.val (.ref x), .val (.int (4 : Int32)), .val (.int ((3 : Int32) + (1 : Int32))), .val (.int (1 : Int32)), .val (.int (1 : Int32)), .val (.int c3)] d_prog_29m2_99 rfl rfl rfl rfl ?_
      rw [show ((3 : Int32) + (1 : Int32)) = (4 : Int32) from by decide]
      refine g_goto D383 46 d_prog_29m2_102 (by decide) (by decide) ?_
      refine g_iloadN D383 47 d_prog_29m2_46 rfl rfl ?_
      refine g_iloadN D383 48 d_prog_29m2_47 rfl rfl ?_
      refine g_icmpY D383 105 d_prog_29m2_48 (by decide) (by decide) (by decide) ?_
      refine g_iloadN D383 106 d_prog_29m2_105 rfl rfl ?_
      exact r_N D383 hret (by simp) hlk d_prog_29m2_106 ⟨congrArg (fun z => some (Value.int z)) (own_nar1.trans ((if_pos sg).trans (own_l58 k1 k2 k3)).symm), rfl, rfl⟩ (by decide) (by decide)
    refine g_icmpY D381 97 d_prog_29m2_83 (feq zB1).2 (by decide) (by decide) ?_
    have k1 := cls_l zA1 zB1
    refine g_iconst D381 98 (0 : Int32) d_prog_29m2_97 rfl rfl ?_
    exact r_N D381 hret (by simp) hlk d_prog_29m2_98 ⟨congrArg (fun z => some (Value.int z)) (own_nar0.trans ((if_pos sg).trans (own_l59 k1)).symm), rfl, rfl⟩ (by decide) (by decide)
  refine g_icmpN D381 67 d_prog_29m2_64 (flt zA1).1 rfl ?_
  refine g_iload D381 69 d_prog_29m2_67 rfl rfl ?_
  refine g_bipush D381 71 (57 : Int32) d_prog_29m2_69 rfl rfl ?_
  by_cases zC1 : (57 : Int32) < c1
  · refine g_icmpY D381 79 d_prog_29m2_71 (tlt zC1).2.2.1 (by decide) (by decide) ?_
    refine g_iload D381 81 d_prog_29m2_79 rfl rfl ?_
    refine g_bipush D381 83 (46 : Int32) d_prog_29m2_81 rfl rfl ?_
    by_cases zD1 : c1 = (46 : Int32)
    · exact (cls_no zC1 zD1).elim
    refine g_icmpY D381 97 d_prog_29m2_83 (feq zD1).2 (by decide) (by decide) ?_
    have k1 := cls_g zA1 zC1
    refine g_iconst D381 98 (0 : Int32) d_prog_29m2_97 rfl rfl ?_
    exact r_N D381 hret (by simp) hlk d_prog_29m2_98 ⟨congrArg (fun z => some (Value.int z)) (own_nar0.trans ((if_pos sg).trans (own_l59 k1)).symm), rfl, rfl⟩ (by decide) (by decide)
  refine g_icmpN D381 74 d_prog_29m2_71 (flt zC1).2.2.1 rfl ?_
  have k1 := cls_d zA1 zC1
  refine g_iconst D381 75 (1 : Int32) d_prog_29m2_74 rfl rfl ?_
  refine g_istoreN D381 76 #[.val (.ref x), .val (.int (4 : Int32)), .val (.int (1 : Int32)), .val (.int (1 : Int32)), .val (.int (0 : Int32)), .val (.int c1)] d_prog_29m2_75 rfl rfl ?_
  refine g_goto D381 99 d_prog_29m2_76 (by decide) (by decide) ?_
  refine g_iinc D381 102 (1 : Int32) #[.val (.ref x), .val (.int (4 : Int32)), .val (.int ((1 : Int32) + (1 : Int32))), .val (.int (1 : Int32)), .val (.int (0 : Int32)), .val (.int c1)] d_prog_29m2_99 rfl rfl rfl rfl ?_
  rw [show ((1 : Int32) + (1 : Int32)) = (2 : Int32) from by decide]
  refine g_goto D381 46 d_prog_29m2_102 (by decide) (by decide) ?_
  refine g_iloadN D381 47 d_prog_29m2_46 rfl rfl ?_
  refine g_iloadN D381 48 d_prog_29m2_47 rfl rfl ?_
  refine g_icmpN D381 51 d_prog_29m2_48 (by decide) rfl ?_
  refine g_aloadN D381 52 d_prog_29m2_51 rfl rfl rfl ?_
  refine g_iloadN D381 53 d_prog_29m2_52 rfl rfl ?_
  refine g_callIp D381 58 (hw _ w_72) (hw _ w_73) (hw _ w_74) (hw _ w_75) (hw _ w_76) (hw _ w_77) (hw _ w_78) (hw _ w_51) (by decide) ((cSCh_4_2 l Z a0 hw [] x zc fm c0 c1 c2 c3 h0 n0 Z0 OLD SA SH SL CS hzc SFm rfm X_x).back D381 0 (hw _ w_79) (hw _ w_8) (by decide) (by decide)) X_x.exa rfl [(.int (2 : Int32))] rfl (lenOf pd_16 rfl) rfl (Nat.le_of_eq rfl) (by decide) (by decide) d_prog_29m2_53 rfl ?_
  intro v384 T384 q384 D384
  subst q384
  show Go p e below _ (T384.setTop (mkF m 58 #[.val (.ref x), .val (.int (4 : Int32)), .val (.int (2 : Int32)), .val (.int (1 : Int32)), .val (.int (0 : Int32)), .val (.int c1)] [(.int c2)]))
  refine g_istore D384 60 #[.val (.ref x), .val (.int (4 : Int32)), .val (.int (2 : Int32)), .val (.int (1 : Int32)), .val (.int (0 : Int32)), .val (.int c2)] d_prog_29m2_58 rfl rfl ?_
  refine g_iload D384 62 d_prog_29m2_60 rfl rfl ?_
  refine g_bipush D384 64 (48 : Int32) d_prog_29m2_62 rfl rfl ?_
  by_cases zA2 : c2 < (48 : Int32)
  · refine g_icmpY D384 79 d_prog_29m2_64 (tlt zA2).1 (by decide) (by decide) ?_
    refine g_iload D384 81 d_prog_29m2_79 rfl rfl ?_
    refine g_bipush D384 83 (46 : Int32) d_prog_29m2_81 rfl rfl ?_
    by_cases zB2 : c2 = (46 : Int32)
    · refine g_icmpN D384 86 d_prog_29m2_83 (teq zB2).2 rfl ?_
      have k2 := cls_p zA2 zB2
      refine g_iload D384 88 d_prog_29m2_86 rfl rfl ?_
      refine g_ifN D384 91 d_prog_29m2_88 (by decide) rfl ?_
      refine g_iconst D384 92 (1 : Int32) d_prog_29m2_91 rfl rfl ?_
      refine g_istore D384 94 #[.val (.ref x), .val (.int (4 : Int32)), .val (.int (2 : Int32)), .val (.int (1 : Int32)), .val (.int (1 : Int32)), .val (.int c2)] d_prog_29m2_92 rfl rfl ?_
      refine g_goto D384 99 d_prog_29m2_94 (by decide) (by decide) ?_
      refine g_iinc D384 102 (1 : Int32) #[.val (.ref x), .val (.int (4 : Int32)), .val (.int ((2 : Int32) + (1 : Int32))), .val (.int (1 : Int32)), .val (.int (1 : Int32)), .val (.int c2)] d_prog_29m2_99 rfl rfl rfl rfl ?_
      rw [show ((2 : Int32) + (1 : Int32)) = (3 : Int32) from by decide]
      refine g_goto D384 46 d_prog_29m2_102 (by decide) (by decide) ?_
      refine g_iloadN D384 47 d_prog_29m2_46 rfl rfl ?_
      refine g_iloadN D384 48 d_prog_29m2_47 rfl rfl ?_
      refine g_icmpN D384 51 d_prog_29m2_48 (by decide) rfl ?_
      refine g_aloadN D384 52 d_prog_29m2_51 rfl rfl rfl ?_
      refine g_iloadN D384 53 d_prog_29m2_52 rfl rfl ?_
      refine g_callIp D384 58 (hw _ w_72) (hw _ w_73) (hw _ w_74) (hw _ w_75) (hw _ w_76) (hw _ w_77) (hw _ w_78) (hw _ w_51) (by decide) ((cSCh_4_3 l Z a0 hw [] x zc fm c0 c1 c2 c3 h0 n0 Z0 OLD SA SH SL CS hzc SFm rfm X_x).back D384 0 (hw _ w_79) (hw _ w_8) (by decide) (by decide)) X_x.exa rfl [(.int (3 : Int32))] rfl (lenOf pd_16 rfl) rfl (Nat.le_of_eq rfl) (by decide) (by decide) d_prog_29m2_53 rfl ?_
      intro v385 T385 q385 D385
      subst q385
      show Go p e below _ (T385.setTop (mkF m 58 #[.val (.ref x), .val (.int (4 : Int32)), .val (.int (3 : Int32)), .val (.int (1 : Int32)), .val (.int (1 : Int32)), .val (.int c2)] [(.int c3)]))
      refine g_istore D385 60 #[.val (.ref x), .val (.int (4 : Int32)), .val (.int (3 : Int32)), .val (.int (1 : Int32)), .val (.int (1 : Int32)), .val (.int c3)] d_prog_29m2_58 rfl rfl ?_
      refine g_iload D385 62 d_prog_29m2_60 rfl rfl ?_
      refine g_bipush D385 64 (48 : Int32) d_prog_29m2_62 rfl rfl ?_
      by_cases zA3 : c3 < (48 : Int32)
      · refine g_icmpY D385 79 d_prog_29m2_64 (tlt zA3).1 (by decide) (by decide) ?_
        refine g_iload D385 81 d_prog_29m2_79 rfl rfl ?_
        refine g_bipush D385 83 (46 : Int32) d_prog_29m2_81 rfl rfl ?_
        by_cases zB3 : c3 = (46 : Int32)
        · refine g_icmpN D385 86 d_prog_29m2_83 (teq zB3).2 rfl ?_
          have k3 := cls_p zA3 zB3
          refine g_iload D385 88 d_prog_29m2_86 rfl rfl ?_
          refine g_ifY D385 97 d_prog_29m2_88 (by decide) (by decide) (by decide) ?_
          refine g_iconst D385 98 (0 : Int32) d_prog_29m2_97 rfl rfl ?_
          exact r_N D385 hret (by simp) hlk d_prog_29m2_98 ⟨congrArg (fun z => some (Value.int z)) (own_nar0.trans ((if_pos sg).trans (own_l60 k1 k2 k3)).symm), rfl, rfl⟩ (by decide) (by decide)
        refine g_icmpY D385 97 d_prog_29m2_83 (feq zB3).2 (by decide) (by decide) ?_
        have k3 := cls_l zA3 zB3
        refine g_iconst D385 98 (0 : Int32) d_prog_29m2_97 rfl rfl ?_
        exact r_N D385 hret (by simp) hlk d_prog_29m2_98 ⟨congrArg (fun z => some (Value.int z)) (own_nar0.trans ((if_pos sg).trans (own_l61 k1 k2 k3)).symm), rfl, rfl⟩ (by decide) (by decide)
      refine g_icmpN D385 67 d_prog_29m2_64 (flt zA3).1 rfl ?_
      refine g_iload D385 69 d_prog_29m2_67 rfl rfl ?_
      refine g_bipush D385 71 (57 : Int32) d_prog_29m2_69 rfl rfl ?_
      by_cases zC3 : (57 : Int32) < c3
      · refine g_icmpY D385 79 d_prog_29m2_71 (tlt zC3).2.2.1 (by decide) (by decide) ?_
        refine g_iload D385 81 d_prog_29m2_79 rfl rfl ?_
        refine g_bipush D385 83 (46 : Int32) d_prog_29m2_81 rfl rfl ?_
        by_cases zD3 : c3 = (46 : Int32)
        · exact (cls_no zC3 zD3).elim
        refine g_icmpY D385 97 d_prog_29m2_83 (feq zD3).2 (by decide) (by decide) ?_
        have k3 := cls_g zA3 zC3
        refine g_iconst D385 98 (0 : Int32) d_prog_29m2_97 rfl rfl ?_
        exact r_N D385 hret (by simp) hlk d_prog_29m2_98 ⟨congrArg (fun z => some (Value.int z)) (own_nar0.trans ((if_pos sg).trans (own_l61 k1 k2 k3)).symm), rfl, rfl⟩ (by decide) (by decide)
      refine g_icmpN D385 74 d_prog_29m2_71 (flt zC3).2.2.1 rfl ?_
      have k3 := cls_d zA3 zC3
      refine g_iconst D385 75 (1 : Int32) d_prog_29m2_74 rfl rfl ?_
      refine g_istoreN D385 76 #[.val (.ref x), .val (.int (4 : Int32)), .val (.int (3 : Int32)), .val (.int (1 : Int32)), .val (.int (1 : Int32)), .val (.int c3)] d_prog_29m2_75 rfl rfl ?_
      refine g_goto D385 99 d_prog_29m2_76 (by decide) (by decide) ?_
      refine g_iinc D385 102 (1 : Int32) #[.val (.ref x), .val (.int (4 : Int32)), .val (.int ((3 : Int32) + (1 : Int32))), .val (.int (1 : Int32)), .val (.int (1 : Int32)), .val (.int c3)] d_prog_29m2_99 rfl rfl rfl rfl ?_
      rw [show ((3 : Int32) + (1 : Int32)) = (4 : Int32) from by decide]
      refine g_goto D385 46 d_prog_29m2_102 (by decide) (by decide) ?_
      refine g_iloadN D385 47 d_prog_29m2_46 rfl rfl ?_
      refine g_iloadN D385 48 d_prog_29m2_47 rfl rfl ?_
      refine g_icmpY D385 105 d_prog_29m2_48 (by decide) (by decide) (by decide) ?_
      refine g_iloadN D385 106 d_prog_29m2_105 rfl rfl ?_
      exact r_N D385 hret (by simp) hlk d_prog_29m2_106 ⟨congrArg (fun z => some (Value.int z)) (own_nar1.trans ((if_pos sg).trans (own_l62 k1 k2 k3)).symm), rfl, rfl⟩ (by decide) (by decide)
    refine g_icmpY D384 97 d_prog_29m2_83 (feq zB2).2 (by decide) (by decide) ?_
    have k2 := cls_l zA2 zB2
    refine g_iconst D384 98 (0 : Int32) d_prog_29m2_97 rfl rfl ?_
    exact r_N D384 hret (by simp) hlk d_prog_29m2_98 ⟨congrArg (fun z => some (Value.int z)) (own_nar0.trans ((if_pos sg).trans (own_l63 k1 k2)).symm), rfl, rfl⟩ (by decide) (by decide)
  refine g_icmpN D384 67 d_prog_29m2_64 (flt zA2).1 rfl ?_
  refine g_iload D384 69 d_prog_29m2_67 rfl rfl ?_
  refine g_bipush D384 71 (57 : Int32) d_prog_29m2_69 rfl rfl ?_
  by_cases zC2 : (57 : Int32) < c2
  · refine g_icmpY D384 79 d_prog_29m2_71 (tlt zC2).2.2.1 (by decide) (by decide) ?_
    refine g_iload D384 81 d_prog_29m2_79 rfl rfl ?_
    refine g_bipush D384 83 (46 : Int32) d_prog_29m2_81 rfl rfl ?_
    by_cases zD2 : c2 = (46 : Int32)
    · exact (cls_no zC2 zD2).elim
    refine g_icmpY D384 97 d_prog_29m2_83 (feq zD2).2 (by decide) (by decide) ?_
    have k2 := cls_g zA2 zC2
    refine g_iconst D384 98 (0 : Int32) d_prog_29m2_97 rfl rfl ?_
    exact r_N D384 hret (by simp) hlk d_prog_29m2_98 ⟨congrArg (fun z => some (Value.int z)) (own_nar0.trans ((if_pos sg).trans (own_l63 k1 k2)).symm), rfl, rfl⟩ (by decide) (by decide)
  refine g_icmpN D384 74 d_prog_29m2_71 (flt zC2).2.2.1 rfl ?_
  have k2 := cls_d zA2 zC2
  refine g_iconst D384 75 (1 : Int32) d_prog_29m2_74 rfl rfl ?_
  refine g_istoreN D384 76 #[.val (.ref x), .val (.int (4 : Int32)), .val (.int (2 : Int32)), .val (.int (1 : Int32)), .val (.int (0 : Int32)), .val (.int c2)] d_prog_29m2_75 rfl rfl ?_
  refine g_goto D384 99 d_prog_29m2_76 (by decide) (by decide) ?_
  refine g_iinc D384 102 (1 : Int32) #[.val (.ref x), .val (.int (4 : Int32)), .val (.int ((2 : Int32) + (1 : Int32))), .val (.int (1 : Int32)), .val (.int (0 : Int32)), .val (.int c2)] d_prog_29m2_99 rfl rfl rfl rfl ?_
  rw [show ((2 : Int32) + (1 : Int32)) = (3 : Int32) from by decide]
  refine g_goto D384 46 d_prog_29m2_102 (by decide) (by decide) ?_
  refine g_iloadN D384 47 d_prog_29m2_46 rfl rfl ?_
  refine g_iloadN D384 48 d_prog_29m2_47 rfl rfl ?_
  refine g_icmpN D384 51 d_prog_29m2_48 (by decide) rfl ?_
  refine g_aloadN D384 52 d_prog_29m2_51 rfl rfl rfl ?_
  refine g_iloadN D384 53 d_prog_29m2_52 rfl rfl ?_
  refine g_callIp D384 58 (hw _ w_72) (hw _ w_73) (hw _ w_74) (hw _ w_75) (hw _ w_76) (hw _ w_77) (hw _ w_78) (hw _ w_51) (by decide) ((cSCh_4_3 l Z a0 hw [] x zc fm c0 c1 c2 c3 h0 n0 Z0 OLD SA SH SL CS hzc SFm rfm X_x).back D384 0 (hw _ w_79) (hw _ w_8) (by decide) (by decide)) X_x.exa rfl [(.int (3 : Int32))] rfl (lenOf pd_16 rfl) rfl (Nat.le_of_eq rfl) (by decide) (by decide) d_prog_29m2_53 rfl ?_
  intro v386 T386 q386 D386
  subst q386
  show Go p e below _ (T386.setTop (mkF m 58 #[.val (.ref x), .val (.int (4 : Int32)), .val (.int (3 : Int32)), .val (.int (1 : Int32)), .val (.int (0 : Int32)), .val (.int c2)] [(.int c3)]))
  refine g_istore D386 60 #[.val (.ref x), .val (.int (4 : Int32)), .val (.int (3 : Int32)), .val (.int (1 : Int32)), .val (.int (0 : Int32)), .val (.int c3)] d_prog_29m2_58 rfl rfl ?_
  refine g_iload D386 62 d_prog_29m2_60 rfl rfl ?_
  refine g_bipush D386 64 (48 : Int32) d_prog_29m2_62 rfl rfl ?_
  by_cases zA3 : c3 < (48 : Int32)
  · refine g_icmpY D386 79 d_prog_29m2_64 (tlt zA3).1 (by decide) (by decide) ?_
    refine g_iload D386 81 d_prog_29m2_79 rfl rfl ?_
    refine g_bipush D386 83 (46 : Int32) d_prog_29m2_81 rfl rfl ?_
    by_cases zB3 : c3 = (46 : Int32)
    · refine g_icmpN D386 86 d_prog_29m2_83 (teq zB3).2 rfl ?_
      have k3 := cls_p zA3 zB3
      refine g_iload D386 88 d_prog_29m2_86 rfl rfl ?_
      refine g_ifN D386 91 d_prog_29m2_88 (by decide) rfl ?_
      refine g_iconst D386 92 (1 : Int32) d_prog_29m2_91 rfl rfl ?_
      refine g_istore D386 94 #[.val (.ref x), .val (.int (4 : Int32)), .val (.int (3 : Int32)), .val (.int (1 : Int32)), .val (.int (1 : Int32)), .val (.int c3)] d_prog_29m2_92 rfl rfl ?_
      refine g_goto D386 99 d_prog_29m2_94 (by decide) (by decide) ?_
      refine g_iinc D386 102 (1 : Int32) #[.val (.ref x), .val (.int (4 : Int32)), .val (.int ((3 : Int32) + (1 : Int32))), .val (.int (1 : Int32)), .val (.int (1 : Int32)), .val (.int c3)] d_prog_29m2_99 rfl rfl rfl rfl ?_
      rw [show ((3 : Int32) + (1 : Int32)) = (4 : Int32) from by decide]
      refine g_goto D386 46 d_prog_29m2_102 (by decide) (by decide) ?_
      refine g_iloadN D386 47 d_prog_29m2_46 rfl rfl ?_
      refine g_iloadN D386 48 d_prog_29m2_47 rfl rfl ?_
      refine g_icmpY D386 105 d_prog_29m2_48 (by decide) (by decide) (by decide) ?_
      refine g_iloadN D386 106 d_prog_29m2_105 rfl rfl ?_
      exact r_N D386 hret (by simp) hlk d_prog_29m2_106 ⟨congrArg (fun z => some (Value.int z)) (own_nar1.trans ((if_pos sg).trans (own_l64 k1 k2 k3)).symm), rfl, rfl⟩ (by decide) (by decide)
    refine g_icmpY D386 97 d_prog_29m2_83 (feq zB3).2 (by decide) (by decide) ?_
    have k3 := cls_l zA3 zB3
    refine g_iconst D386 98 (0 : Int32) d_prog_29m2_97 rfl rfl ?_
    exact r_N D386 hret (by simp) hlk d_prog_29m2_98 ⟨congrArg (fun z => some (Value.int z)) (own_nar0.trans ((if_pos sg).trans (own_l65 k1 k2 k3)).symm), rfl, rfl⟩ (by decide) (by decide)
  refine g_icmpN D386 67 d_prog_29m2_64 (flt zA3).1 rfl ?_
  refine g_iload D386 69 d_prog_29m2_67 rfl rfl ?_
  refine g_bipush D386 71 (57 : Int32) d_prog_29m2_69 rfl rfl ?_
  by_cases zC3 : (57 : Int32) < c3
  · refine g_icmpY D386 79 d_prog_29m2_71 (tlt zC3).2.2.1 (by decide) (by decide) ?_
    refine g_iload D386 81 d_prog_29m2_79 rfl rfl ?_
    refine g_bipush D386 83 (46 : Int32) d_prog_29m2_81 rfl rfl ?_
    by_cases zD3 : c3 = (46 : Int32)
    · exact (cls_no zC3 zD3).elim
    refine g_icmpY D386 97 d_prog_29m2_83 (feq zD3).2 (by decide) (by decide) ?_
    have k3 := cls_g zA3 zC3
    refine g_iconst D386 98 (0 : Int32) d_prog_29m2_97 rfl rfl ?_
    exact r_N D386 hret (by simp) hlk d_prog_29m2_98 ⟨congrArg (fun z => some (Value.int z)) (own_nar0.trans ((if_pos sg).trans (own_l65 k1 k2 k3)).symm), rfl, rfl⟩ (by decide) (by decide)
  refine g_icmpN D386 74 d_prog_29m2_71 (flt zC3).2.2.1 rfl ?_
  have k3 := cls_d zA3 zC3
  refine g_iconst D386 75 (1 : Int32) d_prog_29m2_74 rfl rfl ?_
  refine g_istoreN D386 76 #[.val (.ref x), .val (.int (4 : Int32)), .val (.int (3 : Int32)), .val (.int (1 : Int32)), .val (.int (0 : Int32)), .val (.int c3)] d_prog_29m2_75 rfl rfl ?_
  refine g_goto D386 99 d_prog_29m2_76 (by decide) (by decide) ?_
  refine g_iinc D386 102 (1 : Int32) #[.val (.ref x), .val (.int (4 : Int32)), .val (.int ((3 : Int32) + (1 : Int32))), .val (.int (1 : Int32)), .val (.int (0 : Int32)), .val (.int c3)] d_prog_29m2_99 rfl rfl rfl rfl ?_
  rw [show ((3 : Int32) + (1 : Int32)) = (4 : Int32) from by decide]
  refine g_goto D386 46 d_prog_29m2_102 (by decide) (by decide) ?_
  refine g_iloadN D386 47 d_prog_29m2_46 rfl rfl ?_
  refine g_iloadN D386 48 d_prog_29m2_47 rfl rfl ?_
  refine g_icmpY D386 105 d_prog_29m2_48 (by decide) (by decide) (by decide) ?_
  refine g_iloadN D386 106 d_prog_29m2_105 rfl rfl ?_
  exact r_N D386 hret (by simp) hlk d_prog_29m2_106 ⟨congrArg (fun z => some (Value.int z)) (own_nar1.trans ((if_pos sg).trans (own_l66 k1 k2 k3)).symm), rfl, rfl⟩ (by decide) (by decide)
theorem cX (l : Launch) (Z : State) (a0 : Array Value) (hw : tHW Z a0) (ws : List Jvm.Cond) (len i1 i2 i3 i4 zc : Int32) (fm : Value) (h0 : Heap) (n0 : Nat) (Z0 : n0 ≤ h0.size) (hEW : EW Z a0 consts_1) (OLD : Old Z n0 h0) (SA : tSA Z) (SH : tSH Z) (SL : tSL Z) (CS : tCS Z zc) (hzc : ¬ zc = 0) (SFm : tSF Z fm) (rfm : fm.isRef = true) :
    ConW l x code maxLocals ret ws room_1 Z consts_1 #[(.int len), (.int i1), (.int i2), (.int i3), (.int i4)] h0 (fun v h L => v = some (.int 1) ∧ Fr n0 L) 24 1152 := by
  refine enterW (plainFor_of_name pn_4) ?_
  intro p e s m below meth c s₁ hnm hret hlk D0
  rw [ef_cX m len i1 i2 i3 i4]
  refine g_iloadN D0 1 at_0 rfl rfl ?_
  refine g_ldcI D0 3 (hw _ w_0) at_1 rfl ?_
  refine g_iand D0 4 at_3 rfl ?_
  refine g_iconst D0 5 (5 : Int32) at_4 rfl rfl ?_
  refine g_irem D0 6 at_5 (by decide) rfl ?_
  refine g_istore D0 8 #[.val (.int len), .val (.int i1), .val (.int i2), .val (.int i3), .val (.int i4), .val (.int ((len &&& (2147483647 : Int32)) % (5 : Int32))), .unset, .unset, .unset, .unset, .unset, .unset, .unset, .unset, .unset, .unset] at_6 rfl rfl ?_
  refine g_iloadN D0 9 at_8 rfl rfl ?_
  refine g_callSp D0 12 (hw _ w_1) (hw _ w_2) (hw _ w_3) (hw _ w_4) (by decide) ((cDr l Z a0 hw [] i1 h0 n0 Z0).back D0 0 (hw _ w_4) (hw _ w_3) (by decide) (by decide)) rfl [(.int i1)] rfl (lenOf pd_16 rfl) rfl (Nat.le_of_eq rfl) (by decide) (by decide) at_9 rfl ?_
  intro v387 T387 q387 D387
  obtain ⟨c0, rfl, H0⟩ := q387
  show Go p e below _ (T387.setTop (mkF m 12 #[.val (.int len), .val (.int i1), .val (.int i2), .val (.int i3), .val (.int i4), .val (.int ((len &&& (2147483647 : Int32)) % (5 : Int32))), .unset, .unset, .unset, .unset, .unset, .unset, .unset, .unset, .unset, .unset] [(.int c0)]))
  refine g_istore D387 14 #[.val (.int len), .val (.int i1), .val (.int i2), .val (.int i3), .val (.int i4), .val (.int ((len &&& (2147483647 : Int32)) % (5 : Int32))), .val (.int c0), .unset, .unset, .unset, .unset, .unset, .unset, .unset, .unset, .unset] at_12 rfl rfl ?_
  refine g_iloadN D387 15 at_14 rfl rfl ?_
  refine g_callSp D387 18 (hw _ w_1) (hw _ w_2) (hw _ w_3) (hw _ w_4) (by decide) ((cDr l Z a0 hw [] i2 h0 n0 Z0).back D387 0 (hw _ w_4) (hw _ w_3) (by decide) (by decide)) rfl [(.int i2)] rfl (lenOf pd_16 rfl) rfl (Nat.le_of_eq rfl) (by decide) (by decide) at_15 rfl ?_
  intro v388 T388 q388 D388
  obtain ⟨c1, rfl, H1⟩ := q388
  show Go p e below _ (T388.setTop (mkF m 18 #[.val (.int len), .val (.int i1), .val (.int i2), .val (.int i3), .val (.int i4), .val (.int ((len &&& (2147483647 : Int32)) % (5 : Int32))), .val (.int c0), .unset, .unset, .unset, .unset, .unset, .unset, .unset, .unset, .unset] [(.int c1)]))
  refine g_istore D388 20 #[.val (.int len), .val (.int i1), .val (.int i2), .val (.int i3), .val (.int i4), .val (.int ((len &&& (2147483647 : Int32)) % (5 : Int32))), .val (.int c0), .val (.int c1), .unset, .unset, .unset, .unset, .unset, .unset, .unset, .unset] at_18 rfl rfl ?_
  refine g_iloadN D388 21 at_20 rfl rfl ?_
  refine g_callSp D388 24 (hw _ w_1) (hw _ w_2) (hw _ w_3) (hw _ w_4) (by decide) ((cDr l Z a0 hw [] i3 h0 n0 Z0).back D388 0 (hw _ w_4) (hw _ w_3) (by decide) (by decide)) rfl [(.int i3)] rfl (lenOf pd_16 rfl) rfl (Nat.le_of_eq rfl) (by decide) (by decide) at_21 rfl ?_
  intro v389 T389 q389 D389
  obtain ⟨c2, rfl, H2⟩ := q389
  show Go p e below _ (T389.setTop (mkF m 24 #[.val (.int len), .val (.int i1), .val (.int i2), .val (.int i3), .val (.int i4), .val (.int ((len &&& (2147483647 : Int32)) % (5 : Int32))), .val (.int c0), .val (.int c1), .unset, .unset, .unset, .unset, .unset, .unset, .unset, .unset] [(.int c2)]))
  refine g_istore D389 26 #[.val (.int len), .val (.int i1), .val (.int i2), .val (.int i3), .val (.int i4), .val (.int ((len &&& (2147483647 : Int32)) % (5 : Int32))), .val (.int c0), .val (.int c1), .val (.int c2), .unset, .unset, .unset, .unset, .unset, .unset, .unset] at_24 rfl rfl ?_
  refine g_iload D389 28 at_26 rfl rfl ?_
  refine g_callSp D389 31 (hw _ w_1) (hw _ w_2) (hw _ w_3) (hw _ w_4) (by decide) ((cDr l Z a0 hw [] i4 h0 n0 Z0).back D389 0 (hw _ w_4) (hw _ w_3) (by decide) (by decide)) rfl [(.int i4)] rfl (lenOf pd_16 rfl) rfl (Nat.le_of_eq rfl) (by decide) (by decide) at_28 rfl ?_
  intro v390 T390 q390 D390
  obtain ⟨c3, rfl, H3⟩ := q390
  show Go p e below _ (T390.setTop (mkF m 31 #[.val (.int len), .val (.int i1), .val (.int i2), .val (.int i3), .val (.int i4), .val (.int ((len &&& (2147483647 : Int32)) % (5 : Int32))), .val (.int c0), .val (.int c1), .val (.int c2), .unset, .unset, .unset, .unset, .unset, .unset, .unset] [(.int c3)]))
  refine g_istore D390 33 #[.val (.int len), .val (.int i1), .val (.int i2), .val (.int i3), .val (.int i4), .val (.int ((len &&& (2147483647 : Int32)) % (5 : Int32))), .val (.int c0), .val (.int c1), .val (.int c2), .val (.int c3), .unset, .unset, .unset, .unset, .unset, .unset] at_31 rfl rfl ?_
  generalize henn : ((len &&& (2147483647 : Int32)) % (5 : Int32)) = nn
  have hnn := own_04 (henn ▸ own_rem5 _ : 0 ≤ nn.toInt ∧ nn.toInt ≤ 4)
  suffices KJ : ∀ s9 T9 L9 h9 xx, Wk p l e room_1 m #[.int len, .int i1, .int i2, .int i3, .int i4] below meth c x.cls code maxLocals Z (WI Z consts_1 s) s9 T9 L9 8 40 h9 → Fr n0 L9 → Old Z n0 h9 → n0 ≤ h9.size → ((nn = (0 : Int32) ∧ TS Z h9 xx []) ∨ (nn = (1 : Int32) ∧ TS Z h9 xx [c0]) ∨ (nn = (2 : Int32) ∧ TS Z h9 xx [c0, c1]) ∨ (nn = (3 : Int32) ∧ TS Z h9 xx [c0, c1, c2]) ∨ (nn = (4 : Int32) ∧ TS Z h9 xx [c0, c1, c2, c3])) → Go p e below (WG Z consts_1 s (fun v h L => v = some (.int 1) ∧ Fr n0 L) 24 1152) (T9.setTop (mkF m 178 #[.val (.int len), .val (.int i1), .val (.int i2), .val (.int i3), .val (.int i4), .val (.int nn), .val (.int c0), .val (.int c1), .val (.int c2), .val (.int c3), .val (.ref xx), .unset, .unset, .unset, .unset, .unset] [])) by
    rcases hnn with rfl | rfl | rfl | rfl | rfl
    · refine g_iload D390 35 at_33 rfl rfl ?_
      refine g_ifN D390 38 at_35 (by decide) rfl ?_
      refine g_newO D390 41 (hw _ w_6) (hw _ w_7) (hw _ w_8) at_38 (by decide) (by decide) (fun _ E => D390.iv.ext E) rfl ?_
      intro T391 h391 a391 g391 E391 A391 N391 D391
      refine g_dup D391 42 at_41 rfl rfl ?_
      refine g_iconst D391 43 (0 : Int32) at_42 rfl rfl ?_
      refine g_newP D391 45 (aty := .char) (hw _ w_9) at_43 (by decide) (cap := 0) (by decide) (by decide) (by decide) (by decide) (fun _ E => D391.iv.ext E) rfl ?_
      intro T392 h392 a392 k392 g392 E392 V392 D392
      refine g_callNW D392 48 hEW rfl (hw _ w_10) (hw _ w_11) (hw _ w_8) (hw _ w_12) (by decide) (cE1 l Z a0 hw [] a391 a392 k392 h392 n0 (Nat.le_trans (Nat.le_trans Z0 E391.1) E392.1) hEW (A391.ext E392) ((N391 (Or.inr (hw _ w_22)) (ty := (.array .byte)) (by decide)).ext E392) ((N391 (Or.inr (hw _ w_23)) (ty := .byte) (by decide)).ext E392) (Nat.le_trans Z0 (Nat.le_of_eq g391.symm)) V392) rfl [(.ref a392)] rfl (lenOf pd_17 rfl) rfl 1 (Nat.le_of_eq rfl) (by decide) (by decide) (by decide) (by decide) at_45 rfl ?_
      intro v393 s393 T393 h393 L393 q393 SF393 D393
      obtain ⟨rfl, N393, K393, X393⟩ := q393
      have NF393 := Fr.app (Fr.nil n0) N393
      show Go p e below _ (T393.setTop (mkF m 48 #[.val (.int len), .val (.int i1), .val (.int i2), .val (.int i3), .val (.int i4), .val (.int (0 : Int32)), .val (.int c0), .val (.int c1), .val (.int c2), .val (.int c3), .unset, .unset, .unset, .unset, .unset, .unset] [(.ref a391)]))
      have TX393 := LS.ts X393
      refine g_astore D393 50 #[.val (.int len), .val (.int i1), .val (.int i2), .val (.int i3), .val (.int i4), .val (.int (0 : Int32)), .val (.int c0), .val (.int c1), .val (.int c2), .val (.int c3), .val (.ref a391), .unset, .unset, .unset, .unset, .unset] at_48 rfl rfl rfl ?_
      refine g_goto D393 178 at_50 (by decide) (by decide) ?_
      exact KJ _ _ _ _ a391 (D393.more (by decide) (by decide)) NF393 (((OLD.ext E391).ext E392).keep K393 (allS (Nat.le_trans Z0 (Nat.le_of_eq g391.symm)) all0)) (Nat.le_trans (Nat.le_trans (Nat.le_trans Z0 E391.1) E392.1) K393.1) (Or.inl ⟨rfl, TX393⟩)
    · refine g_iload D390 35 at_33 rfl rfl ?_
      refine g_ifY D390 53 at_35 (by decide) (by decide) (by decide) ?_
      refine g_iload D390 55 at_53 rfl rfl ?_
      refine g_iconst D390 56 (1 : Int32) at_55 rfl rfl ?_
      refine g_icmpN D390 59 at_56 (by decide) rfl ?_
      refine g_newO D390 62 (hw _ w_6) (hw _ w_7) (hw _ w_8) at_59 (by decide) (by decide) (fun _ E => D390.iv.ext E) rfl ?_
      intro T394 h394 a394 g394 E394 A394 N394 D394
      refine g_dup D394 63 at_62 rfl rfl ?_
      refine g_iconst D394 64 (1 : Int32) at_63 rfl rfl ?_
      refine g_newP D394 66 (aty := .char) (hw _ w_9) at_64 (by decide) (cap := 1) (by decide) (by decide) (by decide) (by decide) (fun _ E => D394.iv.ext E) rfl ?_
      intro T395 h395 a395 k395 g395 E395 V395 D395
      have V395' : Arv Z h395 a395 k395 .char (1 : Int32) [(.int (0 : Int32))] (.int (0 : Int32)) := V395.pad (pad_rep [] (.int (0 : Int32)) 1)
      refine g_dup D395 67 at_66 rfl rfl ?_
      refine g_iconst D395 68 (0 : Int32) at_67 rfl rfl ?_
      refine g_iload D395 70 at_68 rfl rfl ?_
      refine g_castore D395 71 V395' ⟨by decide, by decide⟩ 0 (by decide) (Nat.le_of_ble_eq_true rfl) (fun _ W => D395.iv.wr (Safe.arv D395.wm.alike V395' (by decide)) W) at_70 rfl ?_
      intro T396 h396 W396 V396 D396
      rw [nar16 H0] at V396
      replace V396 : Arv Z h396 a395 k395 .char (1 : Int32) [(.int c0)] (.int (0 : Int32)) := V396
      have N396 := Fr.snoc D396.st (Fr.nil n0) (Nat.le_trans (Nat.le_trans Z0 E394.1) (Nat.le_of_eq g395.symm))
      refine g_callN D396 74 rfl (hw _ w_10) (hw _ w_11) (hw _ w_12) (by decide) ((cN1_1 l Z a0 hw [] a394 a395 k395 zc c0 h396 n0 (Nat.le_trans (Nat.le_trans (Nat.le_trans Z0 E394.1) E395.1) (Keep.of_wr W396).1) (((OLD.ext E394).ext E395).wr W396 (Nat.le_trans (Nat.le_trans Z0 E394.1) (Nat.le_of_eq g395.symm))) SA SH SL CS hzc ((A394.ext E395).wr W396) (((N394 (Or.inr (hw _ w_22)) (ty := (.array .byte)) (by decide)).ext E395).other W396 (Or.inl (Nat.ne_of_lt (Nat.lt_of_lt_of_le A394.lt (Nat.le_of_eq g395.symm))))) (((N394 (Or.inr (hw _ w_23)) (ty := .byte) (by decide)).ext E395).other W396 (Or.inl (Nat.ne_of_lt (Nat.lt_of_lt_of_le A394.lt (Nat.le_of_eq g395.symm))))) (Nat.le_trans Z0 (Nat.le_of_eq g394.symm)) V396 H0).back D396 1 (hw _ w_12) (hw _ w_8) (by decide) (by decide)) rfl [(.ref a395)] rfl (lenOf pd_17 rfl) rfl (Nat.le_of_eq rfl) (by decide) (by decide) (fun _ _ _ q => D396.iv.keep (sfS (safe_null D396.wm.alike ((A394.ext E395).wr W396) (((N394 (Or.inr (hw _ w_22)) (ty := (.array .byte)) (by decide)).ext E395).other W396 (Or.inl (Nat.ne_of_lt (Nat.lt_of_lt_of_le A394.lt (Nat.le_of_eq g395.symm)))))) sf0) q.2.2.1) at_71 rfl ?_
      intro v397 T397 h397 L397 q397 D397
      obtain ⟨rfl, N397, K397, X397⟩ := q397
      have NF397 := Fr.app N396 N397
      show Go p e below _ (T397.setTop (mkF m 74 #[.val (.int len), .val (.int i1), .val (.int i2), .val (.int i3), .val (.int i4), .val (.int (1 : Int32)), .val (.int c0), .val (.int c1), .val (.int c2), .val (.int c3), .unset, .unset, .unset, .unset, .unset, .unset] [(.ref a394)]))
      refine g_astore D397 76 #[.val (.int len), .val (.int i1), .val (.int i2), .val (.int i3), .val (.int i4), .val (.int (1 : Int32)), .val (.int c0), .val (.int c1), .val (.int c2), .val (.int c3), .val (.ref a394), .unset, .unset, .unset, .unset, .unset] at_74 rfl rfl rfl ?_
      refine g_goto D397 178 at_76 (by decide) (by decide) ?_
      exact KJ _ _ _ _ a394 (D397.more (by decide) (by decide)) NF397 ((((OLD.ext E394).ext E395).wr W396 (Nat.le_trans (Nat.le_trans Z0 E394.1) (Nat.le_of_eq g395.symm))).keep K397 (allS (Nat.le_trans Z0 (Nat.le_of_eq g394.symm)) all0)) (Nat.le_trans (Nat.le_trans (Nat.le_trans (Nat.le_trans Z0 E394.1) E395.1) (Keep.of_wr W396).1) K397.1) (Or.inr (Or.inl ⟨rfl, X397⟩))
    · refine g_iload D390 35 at_33 rfl rfl ?_
      refine g_ifY D390 53 at_35 (by decide) (by decide) (by decide) ?_
      refine g_iload D390 55 at_53 rfl rfl ?_
      refine g_iconst D390 56 (1 : Int32) at_55 rfl rfl ?_
      refine g_icmpY D390 79 at_56 (by decide) (by decide) (by decide) ?_
      refine g_iload D390 81 at_79 rfl rfl ?_
      refine g_iconst D390 82 (2 : Int32) at_81 rfl rfl ?_
      refine g_icmpN D390 85 at_82 (by decide) rfl ?_
      refine g_newO D390 88 (hw _ w_6) (hw _ w_7) (hw _ w_8) at_85 (by decide) (by decide) (fun _ E => D390.iv.ext E) rfl ?_
      intro T398 h398 a398 g398 E398 A398 N398 D398
      refine g_dup D398 89 at_88 rfl rfl ?_
      refine g_iconst D398 90 (2 : Int32) at_89 rfl rfl ?_
      refine g_newP D398 92 (aty := .char) (hw _ w_9) at_90 (by decide) (cap := 2) (by decide) (by decide) (by decide) (by decide) (fun _ E => D398.iv.ext E) rfl ?_
      intro T399 h399 a399 k399 g399 E399 V399 D399
      have V399' : Arv Z h399 a399 k399 .char (2 : Int32) [(.int (0 : Int32)), (.int (0 : Int32))] (.int (0 : Int32)) := V399.pad (pad_rep [] (.int (0 : Int32)) 2)
      refine g_dup D399 93 at_92 rfl rfl ?_
      refine g_iconst D399 94 (0 : Int32) at_93 rfl rfl ?_
      refine g_iload D399 96 at_94 rfl rfl ?_
      refine g_castore D399 97 V399' ⟨by decide, by decide⟩ 0 (by decide) (Nat.le_of_ble_eq_true rfl) (fun _ W => D399.iv.wr (Safe.arv D399.wm.alike V399' (by decide)) W) at_96 rfl ?_
      intro T400 h400 W400 V400 D400
      rw [nar16 H0] at V400
      replace V400 : Arv Z h400 a399 k399 .char (2 : Int32) [(.int c0), (.int (0 : Int32))] (.int (0 : Int32)) := V400
      have N400 := Fr.snoc D400.st (Fr.nil n0) (Nat.le_trans (Nat.le_trans Z0 E398.1) (Nat.le_of_eq g399.symm))
      refine g_dup D400 98 at_97 rfl rfl ?_
      refine g_iconst D400 99 (1 : Int32) at_98 rfl rfl ?_
      refine g_iload D400 101 at_99 rfl rfl ?_
      refine g_castore D400 102 V400 ⟨by decide, by decide⟩ 1 (by decide) (Nat.le_of_ble_eq_true rfl) (fun _ W => D400.iv.wr (Safe.arv D400.wm.alike V400 (by decide)) W) at_101 rfl ?_
      intro T401 h401 W401 V401 D401
      rw [nar16 H1] at V401
      replace V401 : Arv Z h401 a399 k399 .char (2 : Int32) [(.int c0), (.int c1)] (.int (0 : Int32)) := V401
      have N401 := Fr.snoc D401.st N400 (Nat.le_trans (Nat.le_trans Z0 E398.1) (Nat.le_of_eq g399.symm))
      refine g_callN D401 105 rfl (hw _ w_10) (hw _ w_11) (hw _ w_12) (by decide) ((cN1_2 l Z a0 hw [] a398 a399 k399 zc c0 c1 h401 n0 (Nat.le_trans (Nat.le_trans (Nat.le_trans (Nat.le_trans Z0 E398.1) E399.1) (Keep.of_wr W400).1) (Keep.of_wr W401).1) ((((OLD.ext E398).ext E399).wr W400 (Nat.le_trans (Nat.le_trans Z0 E398.1) (Nat.le_of_eq g399.symm))).wr W401 (Nat.le_trans (Nat.le_trans Z0 E398.1) (Nat.le_of_eq g399.symm))) SA SH SL CS hzc (((A398.ext E399).wr W400).wr W401) ((((N398 (Or.inr (hw _ w_22)) (ty := (.array .byte)) (by decide)).ext E399).other W400 (Or.inl (Nat.ne_of_lt (Nat.lt_of_lt_of_le A398.lt (Nat.le_of_eq g399.symm))))).other W401 (Or.inl (Nat.ne_of_lt (Nat.lt_of_lt_of_le A398.lt (Nat.le_of_eq g399.symm))))) ((((N398 (Or.inr (hw _ w_23)) (ty := .byte) (by decide)).ext E399).other W400 (Or.inl (Nat.ne_of_lt (Nat.lt_of_lt_of_le A398.lt (Nat.le_of_eq g399.symm))))).other W401 (Or.inl (Nat.ne_of_lt (Nat.lt_of_lt_of_le A398.lt (Nat.le_of_eq g399.symm))))) (Nat.le_trans Z0 (Nat.le_of_eq g398.symm)) V401 H0 H1).back D401 1 (hw _ w_12) (hw _ w_8) (by decide) (by decide)) rfl [(.ref a399)] rfl (lenOf pd_17 rfl) rfl (Nat.le_of_eq rfl) (by decide) (by decide) (fun _ _ _ q => D401.iv.keep (sfS (safe_null D401.wm.alike (((A398.ext E399).wr W400).wr W401) ((((N398 (Or.inr (hw _ w_22)) (ty := (.array .byte)) (by decide)).ext E399).other W400 (Or.inl (Nat.ne_of_lt (Nat.lt_of_lt_of_le A398.lt (Nat.le_of_eq g399.symm))))).other W401 (Or.inl (Nat.ne_of_lt (Nat.lt_of_lt_of_le A398.lt (Nat.le_of_eq g399.symm)))))) sf0) q.2.2.1) at_102 rfl ?_
      intro v402 T402 h402 L402 q402 D402
      obtain ⟨rfl, N402, K402, X402⟩ := q402
      have NF402 := Fr.app N401 N402
      show Go p e below _ (T402.setTop (mkF m 105 #[.val (.int len), .val (.int i1), .val (.int i2), .val (.int i3), .val (.int i4), .val (.int (2 : Int32)), .val (.int c0), .val (.int c1), .val (.int c2), .val (.int c3), .unset, .unset, .unset, .unset, .unset, .unset] [(.ref a398)]))
      refine g_astore D402 107 #[.val (.int len), .val (.int i1), .val (.int i2), .val (.int i3), .val (.int i4), .val (.int (2 : Int32)), .val (.int c0), .val (.int c1), .val (.int c2), .val (.int c3), .val (.ref a398), .unset, .unset, .unset, .unset, .unset] at_105 rfl rfl rfl ?_
      refine g_goto D402 178 at_107 (by decide) (by decide) ?_
      exact KJ _ _ _ _ a398 (D402.more (by decide) (by decide)) NF402 (((((OLD.ext E398).ext E399).wr W400 (Nat.le_trans (Nat.le_trans Z0 E398.1) (Nat.le_of_eq g399.symm))).wr W401 (Nat.le_trans (Nat.le_trans Z0 E398.1) (Nat.le_of_eq g399.symm))).keep K402 (allS (Nat.le_trans Z0 (Nat.le_of_eq g398.symm)) all0)) (Nat.le_trans (Nat.le_trans (Nat.le_trans (Nat.le_trans (Nat.le_trans Z0 E398.1) E399.1) (Keep.of_wr W400).1) (Keep.of_wr W401).1) K402.1) (Or.inr (Or.inr (Or.inl ⟨rfl, X402⟩)))
    · refine g_iload D390 35 at_33 rfl rfl ?_
      refine g_ifY D390 53 at_35 (by decide) (by decide) (by decide) ?_
      refine g_iload D390 55 at_53 rfl rfl ?_
      refine g_iconst D390 56 (1 : Int32) at_55 rfl rfl ?_
      refine g_icmpY D390 79 at_56 (by decide) (by decide) (by decide) ?_
      refine g_iload D390 81 at_79 rfl rfl ?_
      refine g_iconst D390 82 (2 : Int32) at_81 rfl rfl ?_
      refine g_icmpY D390 110 at_82 (by decide) (by decide) (by decide) ?_
      refine g_iload D390 112 at_110 rfl rfl ?_
      refine g_iconst D390 113 (3 : Int32) at_112 rfl rfl ?_
      refine g_icmpN D390 116 at_113 (by decide) rfl ?_
      refine g_newO D390 119 (hw _ w_6) (hw _ w_7) (hw _ w_8) at_116 (by decide) (by decide) (fun _ E => D390.iv.ext E) rfl ?_
      intro T403 h403 a403 g403 E403 A403 N403 D403
      refine g_dup D403 120 at_119 rfl rfl ?_
      refine g_iconst D403 121 (3 : Int32) at_120 rfl rfl ?_
      refine g_newP D403 123 (aty := .char) (hw _ w_9) at_121 (by decide) (cap := 3) (by decide) (by decide) (by decide) (by decide) (fun _ E => D403.iv.ext E) rfl ?_
      intro T404 h404 a404 k404 g404 E404 V404 D404
      have V404' : Arv Z h404 a404 k404 .char (3 : Int32) [(.int (0 : Int32)), (.int (0 : Int32)), (.int (0 : Int32))] (.int (0 : Int32)) := V404.pad (pad_rep [] (.int (0 : Int32)) 3)
      refine g_dup D404 124 at_123 rfl rfl ?_
      refine g_iconst D404 125 (0 : Int32) at_124 rfl rfl ?_
      refine g_iload D404 127 at_125 rfl rfl ?_
      refine g_castore D404 128 V404' ⟨by decide, by decide⟩ 0 (by decide) (Nat.le_of_ble_eq_true rfl) (fun _ W => D404.iv.wr (Safe.arv D404.wm.alike V404' (by decide)) W) at_127 rfl ?_
      intro T405 h405 W405 V405 D405
      rw [nar16 H0] at V405
      replace V405 : Arv Z h405 a404 k404 .char (3 : Int32) [(.int c0), (.int (0 : Int32)), (.int (0 : Int32))] (.int (0 : Int32)) := V405
      have N405 := Fr.snoc D405.st (Fr.nil n0) (Nat.le_trans (Nat.le_trans Z0 E403.1) (Nat.le_of_eq g404.symm))
      refine g_dup D405 129 at_128 rfl rfl ?_
      refine g_iconst D405 130 (1 : Int32) at_129 rfl rfl ?_
      refine g_iload D405 132 at_130 rfl rfl ?_
      refine g_castore D405 133 V405 ⟨by decide, by decide⟩ 1 (by decide) (Nat.le_of_ble_eq_true rfl) (fun _ W => D405.iv.wr (Safe.arv D405.wm.alike V405 (by decide)) W) at_132 rfl ?_
      intro T406 h406 W406 V406 D406
      rw [nar16 H1] at V406
      replace V406 : Arv Z h406 a404 k404 .char (3 : Int32) [(.int c0), (.int c1), (.int (0 : Int32))] (.int (0 : Int32)) := V406
      have N406 := Fr.snoc D406.st N405 (Nat.le_trans (Nat.le_trans Z0 E403.1) (Nat.le_of_eq g404.symm))
      refine g_dup D406 134 at_133 rfl rfl ?_
      refine g_iconst D406 135 (2 : Int32) at_134 rfl rfl ?_
      refine g_iload D406 137 at_135 rfl rfl ?_
      refine g_castore D406 138 V406 ⟨by decide, by decide⟩ 2 (by decide) (Nat.le_of_ble_eq_true rfl) (fun _ W => D406.iv.wr (Safe.arv D406.wm.alike V406 (by decide)) W) at_137 rfl ?_
      intro T407 h407 W407 V407 D407
      rw [nar16 H2] at V407
      replace V407 : Arv Z h407 a404 k404 .char (3 : Int32) [(.int c0), (.int c1), (.int c2)] (.int (0 : Int32)) := V407
      have N407 := Fr.snoc D407.st N406 (Nat.le_trans (Nat.le_trans Z0 E403.1) (Nat.le_of_eq g404.symm))
      refine g_callN D407 141 rfl (hw _ w_10) (hw _ w_11) (hw _ w_12) (by decide) ((cN1_3 l Z a0 hw [] a403 a404 k404 zc c0 c1 c2 h407 n0 (Nat.le_trans (Nat.le_trans (Nat.le_trans (Nat.le_trans (Nat.le_trans Z0 E403.1) E404.1) (Keep.of_wr W405).1) (Keep.of_wr W406).1) (Keep.of_wr W407).1) (((((OLD.ext E403).ext E404).wr W405 (Nat.le_trans (Nat.le_trans Z0 E403.1) (Nat.le_of_eq g404.symm))).wr W406 (Nat.le_trans (Nat.le_trans Z0 E403.1) (Nat.le_of_eq g404.symm))).wr W407 (Nat.le_trans (Nat.le_trans Z0 E403.1) (Nat.le_of_eq g404.symm))) SA SH SL CS hzc ((((A403.ext E404).wr W405).wr W406).wr W407) (((((N403 (Or.inr (hw _ w_22)) (ty := (.array .byte)) (by decide)).ext E404).other W405 (Or.inl (Nat.ne_of_lt (Nat.lt_of_lt_of_le A403.lt (Nat.le_of_eq g404.symm))))).other W406 (Or.inl (Nat.ne_of_lt (Nat.lt_of_lt_of_le A403.lt (Nat.le_of_eq g404.symm))))).other W407 (Or.inl (Nat.ne_of_lt (Nat.lt_of_lt_of_le A403.lt (Nat.le_of_eq g404.symm))))) (((((N403 (Or.inr (hw _ w_23)) (ty := .byte) (by decide)).ext E404).other W405 (Or.inl (Nat.ne_of_lt (Nat.lt_of_lt_of_le A403.lt (Nat.le_of_eq g404.symm))))).other W406 (Or.inl (Nat.ne_of_lt (Nat.lt_of_lt_of_le A403.lt (Nat.le_of_eq g404.symm))))).other W407 (Or.inl (Nat.ne_of_lt (Nat.lt_of_lt_of_le A403.lt (Nat.le_of_eq g404.symm))))) (Nat.le_trans Z0 (Nat.le_of_eq g403.symm)) V407 H0 H1 H2).back D407 1 (hw _ w_12) (hw _ w_8) (by decide) (by decide)) rfl [(.ref a404)] rfl (lenOf pd_17 rfl) rfl (Nat.le_of_eq rfl) (by decide) (by decide) (fun _ _ _ q => D407.iv.keep (sfS (safe_null D407.wm.alike ((((A403.ext E404).wr W405).wr W406).wr W407) (((((N403 (Or.inr (hw _ w_22)) (ty := (.array .byte)) (by decide)).ext E404).other W405 (Or.inl (Nat.ne_of_lt (Nat.lt_of_lt_of_le A403.lt (Nat.le_of_eq g404.symm))))).other W406 (Or.inl (Nat.ne_of_lt (Nat.lt_of_lt_of_le A403.lt (Nat.le_of_eq g404.symm))))).other W407 (Or.inl (Nat.ne_of_lt (Nat.lt_of_lt_of_le A403.lt (Nat.le_of_eq g404.symm)))))) sf0) q.2.2.1) at_138 rfl ?_
      intro v408 T408 h408 L408 q408 D408
      obtain ⟨rfl, N408, K408, X408⟩ := q408
      have NF408 := Fr.app N407 N408
      show Go p e below _ (T408.setTop (mkF m 141 #[.val (.int len), .val (.int i1), .val (.int i2), .val (.int i3), .val (.int i4), .val (.int (3 : Int32)), .val (.int c0), .val (.int c1), .val (.int c2), .val (.int c3), .unset, .unset, .unset, .unset, .unset, .unset] [(.ref a403)]))
      refine g_astore D408 143 #[.val (.int len), .val (.int i1), .val (.int i2), .val (.int i3), .val (.int i4), .val (.int (3 : Int32)), .val (.int c0), .val (.int c1), .val (.int c2), .val (.int c3), .val (.ref a403), .unset, .unset, .unset, .unset, .unset] at_141 rfl rfl rfl ?_
      refine g_goto D408 178 at_143 (by decide) (by decide) ?_
      exact KJ _ _ _ _ a403 (D408.more (by decide) (by decide)) NF408 ((((((OLD.ext E403).ext E404).wr W405 (Nat.le_trans (Nat.le_trans Z0 E403.1) (Nat.le_of_eq g404.symm))).wr W406 (Nat.le_trans (Nat.le_trans Z0 E403.1) (Nat.le_of_eq g404.symm))).wr W407 (Nat.le_trans (Nat.le_trans Z0 E403.1) (Nat.le_of_eq g404.symm))).keep K408 (allS (Nat.le_trans Z0 (Nat.le_of_eq g403.symm)) all0)) (Nat.le_trans (Nat.le_trans (Nat.le_trans (Nat.le_trans (Nat.le_trans (Nat.le_trans Z0 E403.1) E404.1) (Keep.of_wr W405).1) (Keep.of_wr W406).1) (Keep.of_wr W407).1) K408.1) (Or.inr (Or.inr (Or.inr (Or.inl ⟨rfl, X408⟩))))
    · refine g_iload D390 35 at_33 rfl rfl ?_
      refine g_ifY D390 53 at_35 (by decide) (by decide) (by decide) ?_
      refine g_iload D390 55 at_53 rfl rfl ?_
      refine g_iconst D390 56 (1 : Int32) at_55 rfl rfl ?_
      refine g_icmpY D390 79 at_56 (by decide) (by decide) (by decide) ?_
      refine g_iload D390 81 at_79 rfl rfl ?_
      refine g_iconst D390 82 (2 : Int32) at_81 rfl rfl ?_
      refine g_icmpY D390 110 at_82 (by decide) (by decide) (by decide) ?_
      refine g_iload D390 112 at_110 rfl rfl ?_
      refine g_iconst D390 113 (3 : Int32) at_112 rfl rfl ?_
      refine g_icmpY D390 146 at_113 (by decide) (by decide) (by decide) ?_
      refine g_newO D390 149 (hw _ w_6) (hw _ w_7) (hw _ w_8) at_146 (by decide) (by decide) (fun _ E => D390.iv.ext E) rfl ?_
      intro T409 h409 a409 g409 E409 A409 N409 D409
      refine g_dup D409 150 at_149 rfl rfl ?_
      refine g_iconst D409 151 (4 : Int32) at_150 rfl rfl ?_
      refine g_newP D409 153 (aty := .char) (hw _ w_9) at_151 (by decide) (cap := 4) (by decide) (by decide) (by decide) (by decide) (fun _ E => D409.iv.ext E) rfl ?_
      intro T410 h410 a410 k410 g410 E410 V410 D410
      have V410' : Arv Z h410 a410 k410 .char (4 : Int32) [(.int (0 : Int32)), (.int (0 : Int32)), (.int (0 : Int32)), (.int (0 : Int32))] (.int (0 : Int32)) := V410.pad (pad_rep [] (.int (0 : Int32)) 4)
      refine g_dup D410 154 at_153 rfl rfl ?_
      refine g_iconst D410 155 (0 : Int32) at_154 rfl rfl ?_
      refine g_iload D410 157 at_155 rfl rfl ?_
      refine g_castore D410 158 V410' ⟨by decide, by decide⟩ 0 (by decide) (Nat.le_of_ble_eq_true rfl) (fun _ W => D410.iv.wr (Safe.arv D410.wm.alike V410' (by decide)) W) at_157 rfl ?_
      intro T411 h411 W411 V411 D411
      rw [nar16 H0] at V411
      replace V411 : Arv Z h411 a410 k410 .char (4 : Int32) [(.int c0), (.int (0 : Int32)), (.int (0 : Int32)), (.int (0 : Int32))] (.int (0 : Int32)) := V411
      have N411 := Fr.snoc D411.st (Fr.nil n0) (Nat.le_trans (Nat.le_trans Z0 E409.1) (Nat.le_of_eq g410.symm))
      refine g_dup D411 159 at_158 rfl rfl ?_
      refine g_iconst D411 160 (1 : Int32) at_159 rfl rfl ?_
      refine g_iload D411 162 at_160 rfl rfl ?_
      refine g_castore D411 163 V411 ⟨by decide, by decide⟩ 1 (by decide) (Nat.le_of_ble_eq_true rfl) (fun _ W => D411.iv.wr (Safe.arv D411.wm.alike V411 (by decide)) W) at_162 rfl ?_
      intro T412 h412 W412 V412 D412
      rw [nar16 H1] at V412
      replace V412 : Arv Z h412 a410 k410 .char (4 : Int32) [(.int c0), (.int c1), (.int (0 : Int32)), (.int (0 : Int32))] (.int (0 : Int32)) := V412
      have N412 := Fr.snoc D412.st N411 (Nat.le_trans (Nat.le_trans Z0 E409.1) (Nat.le_of_eq g410.symm))
      refine g_dup D412 164 at_163 rfl rfl ?_
      refine g_iconst D412 165 (2 : Int32) at_164 rfl rfl ?_
      refine g_iload D412 167 at_165 rfl rfl ?_
      refine g_castore D412 168 V412 ⟨by decide, by decide⟩ 2 (by decide) (Nat.le_of_ble_eq_true rfl) (fun _ W => D412.iv.wr (Safe.arv D412.wm.alike V412 (by decide)) W) at_167 rfl ?_
      intro T413 h413 W413 V413 D413
      rw [nar16 H2] at V413
      replace V413 : Arv Z h413 a410 k410 .char (4 : Int32) [(.int c0), (.int c1), (.int c2), (.int (0 : Int32))] (.int (0 : Int32)) := V413
      have N413 := Fr.snoc D413.st N412 (Nat.le_trans (Nat.le_trans Z0 E409.1) (Nat.le_of_eq g410.symm))
      refine g_dup D413 169 at_168 rfl rfl ?_
      refine g_iconst D413 170 (3 : Int32) at_169 rfl rfl ?_
      refine g_iload D413 172 at_170 rfl rfl ?_
      refine g_castore D413 173 V413 ⟨by decide, by decide⟩ 3 (by decide) (Nat.le_of_ble_eq_true rfl) (fun _ W => D413.iv.wr (Safe.arv D413.wm.alike V413 (by decide)) W) at_172 rfl ?_
      intro T414 h414 W414 V414 D414
      rw [nar16 H3] at V414
      replace V414 : Arv Z h414 a410 k410 .char (4 : Int32) [(.int c0), (.int c1), (.int c2), (.int c3)] (.int (0 : Int32)) := V414
      have N414 := Fr.snoc D414.st N413 (Nat.le_trans (Nat.le_trans Z0 E409.1) (Nat.le_of_eq g410.symm))
      refine g_callN D414 176 rfl (hw _ w_10) (hw _ w_11) (hw _ w_12) (by decide) ((cN1_4 l Z a0 hw [] a409 a410 k410 zc c0 c1 c2 c3 h414 n0 (Nat.le_trans (Nat.le_trans (Nat.le_trans (Nat.le_trans (Nat.le_trans (Nat.le_trans Z0 E409.1) E410.1) (Keep.of_wr W411).1) (Keep.of_wr W412).1) (Keep.of_wr W413).1) (Keep.of_wr W414).1) ((((((OLD.ext E409).ext E410).wr W411 (Nat.le_trans (Nat.le_trans Z0 E409.1) (Nat.le_of_eq g410.symm))).wr W412 (Nat.le_trans (Nat.le_trans Z0 E409.1) (Nat.le_of_eq g410.symm))).wr W413 (Nat.le_trans (Nat.le_trans Z0 E409.1) (Nat.le_of_eq g410.symm))).wr W414 (Nat.le_trans (Nat.le_trans Z0 E409.1) (Nat.le_of_eq g410.symm))) SA SH SL CS hzc (((((A409.ext E410).wr W411).wr W412).wr W413).wr W414) ((((((N409 (Or.inr (hw _ w_22)) (ty := (.array .byte)) (by decide)).ext E410).other W411 (Or.inl (Nat.ne_of_lt (Nat.lt_of_lt_of_le A409.lt (Nat.le_of_eq g410.symm))))).other W412 (Or.inl (Nat.ne_of_lt (Nat.lt_of_lt_of_le A409.lt (Nat.le_of_eq g410.symm))))).other W413 (Or.inl (Nat.ne_of_lt (Nat.lt_of_lt_of_le A409.lt (Nat.le_of_eq g410.symm))))).other W414 (Or.inl (Nat.ne_of_lt (Nat.lt_of_lt_of_le A409.lt (Nat.le_of_eq g410.symm))))) ((((((N409 (Or.inr (hw _ w_23)) (ty := .byte) (by decide)).ext E410).other W411 (Or.inl (Nat.ne_of_lt (Nat.lt_of_lt_of_le A409.lt (Nat.le_of_eq g410.symm))))).other W412 (Or.inl (Nat.ne_of_lt (Nat.lt_of_lt_of_le A409.lt (Nat.le_of_eq g410.symm))))).other W413 (Or.inl (Nat.ne_of_lt (Nat.lt_of_lt_of_le A409.lt (Nat.le_of_eq g410.symm))))).other W414 (Or.inl (Nat.ne_of_lt (Nat.lt_of_lt_of_le A409.lt (Nat.le_of_eq g410.symm))))) (Nat.le_trans Z0 (Nat.le_of_eq g409.symm)) V414 H0 H1 H2 H3).back D414 1 (hw _ w_12) (hw _ w_8) (by decide) (by decide)) rfl [(.ref a410)] rfl (lenOf pd_17 rfl) rfl (Nat.le_of_eq rfl) (by decide) (by decide) (fun _ _ _ q => D414.iv.keep (sfS (safe_null D414.wm.alike (((((A409.ext E410).wr W411).wr W412).wr W413).wr W414) ((((((N409 (Or.inr (hw _ w_22)) (ty := (.array .byte)) (by decide)).ext E410).other W411 (Or.inl (Nat.ne_of_lt (Nat.lt_of_lt_of_le A409.lt (Nat.le_of_eq g410.symm))))).other W412 (Or.inl (Nat.ne_of_lt (Nat.lt_of_lt_of_le A409.lt (Nat.le_of_eq g410.symm))))).other W413 (Or.inl (Nat.ne_of_lt (Nat.lt_of_lt_of_le A409.lt (Nat.le_of_eq g410.symm))))).other W414 (Or.inl (Nat.ne_of_lt (Nat.lt_of_lt_of_le A409.lt (Nat.le_of_eq g410.symm)))))) sf0) q.2.2.1) at_173 rfl ?_
      intro v415 T415 h415 L415 q415 D415
      obtain ⟨rfl, N415, K415, X415⟩ := q415
      have NF415 := Fr.app N414 N415
      show Go p e below _ (T415.setTop (mkF m 176 #[.val (.int len), .val (.int i1), .val (.int i2), .val (.int i3), .val (.int i4), .val (.int (4 : Int32)), .val (.int c0), .val (.int c1), .val (.int c2), .val (.int c3), .unset, .unset, .unset, .unset, .unset, .unset] [(.ref a409)]))
      refine g_astore D415 178 #[.val (.int len), .val (.int i1), .val (.int i2), .val (.int i3), .val (.int i4), .val (.int (4 : Int32)), .val (.int c0), .val (.int c1), .val (.int c2), .val (.int c3), .val (.ref a409), .unset, .unset, .unset, .unset, .unset] at_176 rfl rfl rfl ?_
      exact KJ _ _ _ _ a409 (D415.more (by decide) (by decide)) NF415 (((((((OLD.ext E409).ext E410).wr W411 (Nat.le_trans (Nat.le_trans Z0 E409.1) (Nat.le_of_eq g410.symm))).wr W412 (Nat.le_trans (Nat.le_trans Z0 E409.1) (Nat.le_of_eq g410.symm))).wr W413 (Nat.le_trans (Nat.le_trans Z0 E409.1) (Nat.le_of_eq g410.symm))).wr W414 (Nat.le_trans (Nat.le_trans Z0 E409.1) (Nat.le_of_eq g410.symm))).keep K415 (allS (Nat.le_trans Z0 (Nat.le_of_eq g409.symm)) all0)) (Nat.le_trans (Nat.le_trans (Nat.le_trans (Nat.le_trans (Nat.le_trans (Nat.le_trans (Nat.le_trans Z0 E409.1) E410.1) (Keep.of_wr W411).1) (Keep.of_wr W412).1) (Keep.of_wr W413).1) (Keep.of_wr W414).1) K415.1) (Or.inr (Or.inr (Or.inr (Or.inr ⟨rfl, X415⟩))))
  intro s9 T9 L9 h9 xx D9 NF9 OLD9 Z9 SX
  show Go p e below _ (T9.setTop (mkF m 178 #[.val (.int len), .val (.int i1), .val (.int i2), .val (.int i3), .val (.int i4), .val (.int nn), .val (.int c0), .val (.int c1), .val (.int c2), .val (.int c3), .val (.ref xx), .unset, .unset, .unset, .unset, .unset] []))
  suffices K416 : ∀ fr : Int32, own_R (¬ nn < (1 : Int32) ∧ own_sg c0) fr → Go p e below (WG Z consts_1 s (fun v h L => v = some (.int 1) ∧ Fr n0 L) 24 1152) (T9.setTop (mkF m 202 #[.val (.int len), .val (.int i1), .val (.int i2), .val (.int i3), .val (.int i4), .val (.int nn), .val (.int c0), .val (.int c1), .val (.int c2), .val (.int c3), .val (.ref xx), .unset, .unset, .unset, .unset, .unset] [(.int fr)])) by
    refine g_iload D9 180 at_178 rfl rfl ?_
    by_cases hr417 : (0 : Int32) < nn
    · refine g_ifN D9 183 at_180 (tlt hr417).2.2.2 rfl ?_
      refine g_iload D9 185 at_183 rfl rfl ?_
      refine g_bipush D9 187 (43 : Int32) at_185 rfl rfl ?_
      by_cases hr418 : c0 = (43 : Int32)
      · refine g_icmpY D9 197 at_187 (teq hr418).1 (by decide) (by decide) ?_
        refine g_iconst D9 198 (1 : Int32) at_197 rfl rfl ?_
        refine g_goto D9 202 at_198 (by decide) (by decide) ?_
        exact K416 _ (own_l67 hr417 hr418)
      refine g_icmpN D9 190 at_187 (feq hr418).1 rfl ?_
      refine g_iload D9 192 at_190 rfl rfl ?_
      refine g_bipush D9 194 (45 : Int32) at_192 rfl rfl ?_
      by_cases hr419 : c0 = (45 : Int32)
      · refine g_icmpN D9 197 at_194 (teq hr419).2 rfl ?_
        refine g_iconst D9 198 (1 : Int32) at_197 rfl rfl ?_
        refine g_goto D9 202 at_198 (by decide) (by decide) ?_
        exact K416 _ (own_l68 hr417 hr418 hr419)
      refine g_icmpY D9 201 at_194 (feq hr419).2 (by decide) (by decide) ?_
      refine g_iconst D9 202 (0 : Int32) at_201 rfl rfl ?_
      exact K416 _ (own_l69 hr417 hr418 hr419)
    refine g_ifY D9 201 at_180 (flt hr417).2.2.2 (by decide) (by decide) ?_
    refine g_iconst D9 202 (0 : Int32) at_201 rfl rfl ?_
    exact K416 _ (own_l70 hr417)
  intro fr hfr
  refine g_istore D9 204 #[.val (.int len), .val (.int i1), .val (.int i2), .val (.int i3), .val (.int i4), .val (.int nn), .val (.int c0), .val (.int c1), .val (.int c2), .val (.int c3), .val (.ref xx), .val (.int fr), .unset, .unset, .unset, .unset] at_202 rfl rfl ?_
  refine g_iload D9 206 at_204 rfl rfl ?_
  refine g_iconst D9 207 (0 : Int32) at_206 rfl rfl ?_
  refine g_iload D9 209 at_207 rfl rfl ?_
  refine g_iload D9 211 at_209 rfl rfl ?_
  refine g_callSp D9 214 (hw _ w_28) (hw _ w_29) (hw _ w_3) (hw _ w_30) (by decide) ((cDi l Z a0 hw [] c0 (0 : Int32) fr nn h9 n0 Z9).back D9 0 (hw _ w_30) (hw _ w_3) (by decide) (by decide)) rfl [(.int c0), (.int (0 : Int32)), (.int fr), (.int nn)] rfl (lenOf pd_18 rfl) rfl (Nat.le_of_eq rfl) (by decide) (by decide) at_211 rfl ?_
  intro v420 T420 q420 D420
  subst q420
  show Go p e below _ (T420.setTop (mkF m 214 #[.val (.int len), .val (.int i1), .val (.int i2), .val (.int i3), .val (.int i4), .val (.int nn), .val (.int c0), .val (.int c1), .val (.int c2), .val (.int c3), .val (.ref xx), .val (.int fr), .unset, .unset, .unset, .unset] [(.int (own_g (0 : Int32) fr nn (own_kd (own_cls c0))))]))
  refine g_iload D420 216 at_214 rfl rfl ?_
  refine g_iconst D420 217 (1 : Int32) at_216 rfl rfl ?_
  refine g_iload D420 219 at_217 rfl rfl ?_
  refine g_iload D420 221 at_219 rfl rfl ?_
  refine g_callSp D420 224 (hw _ w_28) (hw _ w_29) (hw _ w_3) (hw _ w_30) (by decide) ((cDi l Z a0 hw [] c1 (1 : Int32) fr nn h9 n0 Z9).back D420 1 (hw _ w_30) (hw _ w_3) (by decide) (by decide)) rfl [(.int c1), (.int (1 : Int32)), (.int fr), (.int nn)] rfl (lenOf pd_18 rfl) rfl (Nat.le_of_eq rfl) (by decide) (by decide) at_221 rfl ?_
  intro v421 T421 q421 D421
  subst q421
  show Go p e below _ (T421.setTop (mkF m 224 #[.val (.int len), .val (.int i1), .val (.int i2), .val (.int i3), .val (.int i4), .val (.int nn), .val (.int c0), .val (.int c1), .val (.int c2), .val (.int c3), .val (.ref xx), .val (.int fr), .unset, .unset, .unset, .unset] [(.int (own_g (1 : Int32) fr nn (own_kd (own_cls c1)))), (.int (own_g (0 : Int32) fr nn (own_kd (own_cls c0))))]))
  refine g_iadd D421 225 at_224 rfl ?_
  refine g_iload D421 227 at_225 rfl rfl ?_
  refine g_iconst D421 228 (2 : Int32) at_227 rfl rfl ?_
  refine g_iload D421 230 at_228 rfl rfl ?_
  refine g_iload D421 232 at_230 rfl rfl ?_
  refine g_callSp D421 235 (hw _ w_28) (hw _ w_29) (hw _ w_3) (hw _ w_30) (by decide) ((cDi l Z a0 hw [] c2 (2 : Int32) fr nn h9 n0 Z9).back D421 1 (hw _ w_30) (hw _ w_3) (by decide) (by decide)) rfl [(.int c2), (.int (2 : Int32)), (.int fr), (.int nn)] rfl (lenOf pd_18 rfl) rfl (Nat.le_of_eq rfl) (by decide) (by decide) at_232 rfl ?_
  intro v422 T422 q422 D422
  subst q422
  show Go p e below _ (T422.setTop (mkF m 235 #[.val (.int len), .val (.int i1), .val (.int i2), .val (.int i3), .val (.int i4), .val (.int nn), .val (.int c0), .val (.int c1), .val (.int c2), .val (.int c3), .val (.ref xx), .val (.int fr), .unset, .unset, .unset, .unset] [(.int (own_g (2 : Int32) fr nn (own_kd (own_cls c2)))), (.int ((own_g (0 : Int32) fr nn (own_kd (own_cls c0))) + (own_g (1 : Int32) fr nn (own_kd (own_cls c1)))))]))
  refine g_iadd D422 236 at_235 rfl ?_
  refine g_iload D422 238 at_236 rfl rfl ?_
  refine g_iconst D422 239 (3 : Int32) at_238 rfl rfl ?_
  refine g_iload D422 241 at_239 rfl rfl ?_
  refine g_iload D422 243 at_241 rfl rfl ?_
  refine g_callSp D422 246 (hw _ w_28) (hw _ w_29) (hw _ w_3) (hw _ w_30) (by decide) ((cDi l Z a0 hw [] c3 (3 : Int32) fr nn h9 n0 Z9).back D422 1 (hw _ w_30) (hw _ w_3) (by decide) (by decide)) rfl [(.int c3), (.int (3 : Int32)), (.int fr), (.int nn)] rfl (lenOf pd_18 rfl) rfl (Nat.le_of_eq rfl) (by decide) (by decide) at_243 rfl ?_
  intro v423 T423 q423 D423
  subst q423
  show Go p e below _ (T423.setTop (mkF m 246 #[.val (.int len), .val (.int i1), .val (.int i2), .val (.int i3), .val (.int i4), .val (.int nn), .val (.int c0), .val (.int c1), .val (.int c2), .val (.int c3), .val (.ref xx), .val (.int fr), .unset, .unset, .unset, .unset] [(.int (own_g (3 : Int32) fr nn (own_kd (own_cls c3)))), (.int (((own_g (0 : Int32) fr nn (own_kd (own_cls c0))) + (own_g (1 : Int32) fr nn (own_kd (own_cls c1)))) + (own_g (2 : Int32) fr nn (own_kd (own_cls c2)))))]))
  refine g_iadd D423 247 at_246 rfl ?_
  refine g_istore D423 249 #[.val (.int len), .val (.int i1), .val (.int i2), .val (.int i3), .val (.int i4), .val (.int nn), .val (.int c0), .val (.int c1), .val (.int c2), .val (.int c3), .val (.ref xx), .val (.int fr), .val (.int ((((own_g (0 : Int32) fr nn (own_kd (own_cls c0))) + (own_g (1 : Int32) fr nn (own_kd (own_cls c1)))) + (own_g (2 : Int32) fr nn (own_kd (own_cls c2)))) + (own_g (3 : Int32) fr nn (own_kd (own_cls c3))))), .unset, .unset, .unset] at_247 rfl rfl ?_
  refine g_iload D423 251 at_249 rfl rfl ?_
  refine g_iconst D423 252 (0 : Int32) at_251 rfl rfl ?_
  refine g_iload D423 254 at_252 rfl rfl ?_
  refine g_iload D423 256 at_254 rfl rfl ?_
  refine g_callSp D423 259 (hw _ w_34) (hw _ w_35) (hw _ w_3) (hw _ w_36) (by decide) ((cPt l Z a0 hw [] c0 (0 : Int32) fr nn h9 n0 Z9).back D423 0 (hw _ w_36) (hw _ w_3) (by decide) (by decide)) rfl [(.int c0), (.int (0 : Int32)), (.int fr), (.int nn)] rfl (lenOf pd_18 rfl) rfl (Nat.le_of_eq rfl) (by decide) (by decide) at_256 rfl ?_
  intro v424 T424 q424 D424
  subst q424
  show Go p e below _ (T424.setTop (mkF m 259 #[.val (.int len), .val (.int i1), .val (.int i2), .val (.int i3), .val (.int i4), .val (.int nn), .val (.int c0), .val (.int c1), .val (.int c2), .val (.int c3), .val (.ref xx), .val (.int fr), .val (.int ((((own_g (0 : Int32) fr nn (own_kd (own_cls c0))) + (own_g (1 : Int32) fr nn (own_kd (own_cls c1)))) + (own_g (2 : Int32) fr nn (own_kd (own_cls c2)))) + (own_g (3 : Int32) fr nn (own_kd (own_cls c3))))), .unset, .unset, .unset] [(.int (own_g (0 : Int32) fr nn (own_kp (own_cls c0))))]))
  refine g_iload D424 261 at_259 rfl rfl ?_
  refine g_iconst D424 262 (1 : Int32) at_261 rfl rfl ?_
  refine g_iload D424 264 at_262 rfl rfl ?_
  refine g_iload D424 266 at_264 rfl rfl ?_
  refine g_callSp D424 269 (hw _ w_34) (hw _ w_35) (hw _ w_3) (hw _ w_36) (by decide) ((cPt l Z a0 hw [] c1 (1 : Int32) fr nn h9 n0 Z9).back D424 1 (hw _ w_36) (hw _ w_3) (by decide) (by decide)) rfl [(.int c1), (.int (1 : Int32)), (.int fr), (.int nn)] rfl (lenOf pd_18 rfl) rfl (Nat.le_of_eq rfl) (by decide) (by decide) at_266 rfl ?_
  intro v425 T425 q425 D425
  subst q425
  show Go p e below _ (T425.setTop (mkF m 269 #[.val (.int len), .val (.int i1), .val (.int i2), .val (.int i3), .val (.int i4), .val (.int nn), .val (.int c0), .val (.int c1), .val (.int c2), .val (.int c3), .val (.ref xx), .val (.int fr), .val (.int ((((own_g (0 : Int32) fr nn (own_kd (own_cls c0))) + (own_g (1 : Int32) fr nn (own_kd (own_cls c1)))) + (own_g (2 : Int32) fr nn (own_kd (own_cls c2)))) + (own_g (3 : Int32) fr nn (own_kd (own_cls c3))))), .unset, .unset, .unset] [(.int (own_g (1 : Int32) fr nn (own_kp (own_cls c1)))), (.int (own_g (0 : Int32) fr nn (own_kp (own_cls c0))))]))
  refine g_iadd D425 270 at_269 rfl ?_
  refine g_iload D425 272 at_270 rfl rfl ?_
  refine g_iconst D425 273 (2 : Int32) at_272 rfl rfl ?_
  refine g_iload D425 275 at_273 rfl rfl ?_
  refine g_iload D425 277 at_275 rfl rfl ?_
  refine g_callSp D425 280 (hw _ w_34) (hw _ w_35) (hw _ w_3) (hw _ w_36) (by decide) ((cPt l Z a0 hw [] c2 (2 : Int32) fr nn h9 n0 Z9).back D425 1 (hw _ w_36) (hw _ w_3) (by decide) (by decide)) rfl [(.int c2), (.int (2 : Int32)), (.int fr), (.int nn)] rfl (lenOf pd_18 rfl) rfl (Nat.le_of_eq rfl) (by decide) (by decide) at_277 rfl ?_
  intro v426 T426 q426 D426
  subst q426
  show Go p e below _ (T426.setTop (mkF m 280 #[.val (.int len), .val (.int i1), .val (.int i2), .val (.int i3), .val (.int i4), .val (.int nn), .val (.int c0), .val (.int c1), .val (.int c2), .val (.int c3), .val (.ref xx), .val (.int fr), .val (.int ((((own_g (0 : Int32) fr nn (own_kd (own_cls c0))) + (own_g (1 : Int32) fr nn (own_kd (own_cls c1)))) + (own_g (2 : Int32) fr nn (own_kd (own_cls c2)))) + (own_g (3 : Int32) fr nn (own_kd (own_cls c3))))), .unset, .unset, .unset] [(.int (own_g (2 : Int32) fr nn (own_kp (own_cls c2)))), (.int ((own_g (0 : Int32) fr nn (own_kp (own_cls c0))) + (own_g (1 : Int32) fr nn (own_kp (own_cls c1)))))]))
  refine g_iadd D426 281 at_280 rfl ?_
  refine g_iload D426 283 at_281 rfl rfl ?_
  refine g_iconst D426 284 (3 : Int32) at_283 rfl rfl ?_
  refine g_iload D426 286 at_284 rfl rfl ?_
  refine g_iload D426 288 at_286 rfl rfl ?_
  refine g_callSp D426 291 (hw _ w_34) (hw _ w_35) (hw _ w_3) (hw _ w_36) (by decide) ((cPt l Z a0 hw [] c3 (3 : Int32) fr nn h9 n0 Z9).back D426 1 (hw _ w_36) (hw _ w_3) (by decide) (by decide)) rfl [(.int c3), (.int (3 : Int32)), (.int fr), (.int nn)] rfl (lenOf pd_18 rfl) rfl (Nat.le_of_eq rfl) (by decide) (by decide) at_288 rfl ?_
  intro v427 T427 q427 D427
  subst q427
  show Go p e below _ (T427.setTop (mkF m 291 #[.val (.int len), .val (.int i1), .val (.int i2), .val (.int i3), .val (.int i4), .val (.int nn), .val (.int c0), .val (.int c1), .val (.int c2), .val (.int c3), .val (.ref xx), .val (.int fr), .val (.int ((((own_g (0 : Int32) fr nn (own_kd (own_cls c0))) + (own_g (1 : Int32) fr nn (own_kd (own_cls c1)))) + (own_g (2 : Int32) fr nn (own_kd (own_cls c2)))) + (own_g (3 : Int32) fr nn (own_kd (own_cls c3))))), .unset, .unset, .unset] [(.int (own_g (3 : Int32) fr nn (own_kp (own_cls c3)))), (.int (((own_g (0 : Int32) fr nn (own_kp (own_cls c0))) + (own_g (1 : Int32) fr nn (own_kp (own_cls c1)))) + (own_g (2 : Int32) fr nn (own_kp (own_cls c2)))))]))
  refine g_iadd D427 292 at_291 rfl ?_
  refine g_istore D427 294 #[.val (.int len), .val (.int i1), .val (.int i2), .val (.int i3), .val (.int i4), .val (.int nn), .val (.int c0), .val (.int c1), .val (.int c2), .val (.int c3), .val (.ref xx), .val (.int fr), .val (.int ((((own_g (0 : Int32) fr nn (own_kd (own_cls c0))) + (own_g (1 : Int32) fr nn (own_kd (own_cls c1)))) + (own_g (2 : Int32) fr nn (own_kd (own_cls c2)))) + (own_g (3 : Int32) fr nn (own_kd (own_cls c3))))), .val (.int ((((own_g (0 : Int32) fr nn (own_kp (own_cls c0))) + (own_g (1 : Int32) fr nn (own_kp (own_cls c1)))) + (own_g (2 : Int32) fr nn (own_kp (own_cls c2)))) + (own_g (3 : Int32) fr nn (own_kp (own_cls c3))))), .unset, .unset] at_292 rfl rfl ?_
  refine g_iload D427 296 at_294 rfl rfl ?_
  refine g_iconst D427 297 (0 : Int32) at_296 rfl rfl ?_
  refine g_iload D427 299 at_297 rfl rfl ?_
  refine g_iload D427 301 at_299 rfl rfl ?_
  refine g_callSp D427 304 (hw _ w_37) (hw _ w_38) (hw _ w_3) (hw _ w_39) (by decide) ((cOt l Z a0 hw [] c0 (0 : Int32) fr nn h9 n0 Z9).back D427 0 (hw _ w_39) (hw _ w_3) (by decide) (by decide)) rfl [(.int c0), (.int (0 : Int32)), (.int fr), (.int nn)] rfl (lenOf pd_18 rfl) rfl (Nat.le_of_eq rfl) (by decide) (by decide) at_301 rfl ?_
  intro v428 T428 q428 D428
  subst q428
  show Go p e below _ (T428.setTop (mkF m 304 #[.val (.int len), .val (.int i1), .val (.int i2), .val (.int i3), .val (.int i4), .val (.int nn), .val (.int c0), .val (.int c1), .val (.int c2), .val (.int c3), .val (.ref xx), .val (.int fr), .val (.int ((((own_g (0 : Int32) fr nn (own_kd (own_cls c0))) + (own_g (1 : Int32) fr nn (own_kd (own_cls c1)))) + (own_g (2 : Int32) fr nn (own_kd (own_cls c2)))) + (own_g (3 : Int32) fr nn (own_kd (own_cls c3))))), .val (.int ((((own_g (0 : Int32) fr nn (own_kp (own_cls c0))) + (own_g (1 : Int32) fr nn (own_kp (own_cls c1)))) + (own_g (2 : Int32) fr nn (own_kp (own_cls c2)))) + (own_g (3 : Int32) fr nn (own_kp (own_cls c3))))), .unset, .unset] [(.int (own_g (0 : Int32) fr nn (own_ko (own_cls c0))))]))
  refine g_iload D428 306 at_304 rfl rfl ?_
  refine g_iconst D428 307 (1 : Int32) at_306 rfl rfl ?_
  refine g_iload D428 309 at_307 rfl rfl ?_
  refine g_iload D428 311 at_309 rfl rfl ?_
  refine g_callSp D428 314 (hw _ w_37) (hw _ w_38) (hw _ w_3) (hw _ w_39) (by decide) ((cOt l Z a0 hw [] c1 (1 : Int32) fr nn h9 n0 Z9).back D428 1 (hw _ w_39) (hw _ w_3) (by decide) (by decide)) rfl [(.int c1), (.int (1 : Int32)), (.int fr), (.int nn)] rfl (lenOf pd_18 rfl) rfl (Nat.le_of_eq rfl) (by decide) (by decide) at_311 rfl ?_
  intro v429 T429 q429 D429
  subst q429
  show Go p e below _ (T429.setTop (mkF m 314 #[.val (.int len), .val (.int i1), .val (.int i2), .val (.int i3), .val (.int i4), .val (.int nn), .val (.int c0), .val (.int c1), .val (.int c2), .val (.int c3), .val (.ref xx), .val (.int fr), .val (.int ((((own_g (0 : Int32) fr nn (own_kd (own_cls c0))) + (own_g (1 : Int32) fr nn (own_kd (own_cls c1)))) + (own_g (2 : Int32) fr nn (own_kd (own_cls c2)))) + (own_g (3 : Int32) fr nn (own_kd (own_cls c3))))), .val (.int ((((own_g (0 : Int32) fr nn (own_kp (own_cls c0))) + (own_g (1 : Int32) fr nn (own_kp (own_cls c1)))) + (own_g (2 : Int32) fr nn (own_kp (own_cls c2)))) + (own_g (3 : Int32) fr nn (own_kp (own_cls c3))))), .unset, .unset] [(.int (own_g (1 : Int32) fr nn (own_ko (own_cls c1)))), (.int (own_g (0 : Int32) fr nn (own_ko (own_cls c0))))]))
  refine g_iadd D429 315 at_314 rfl ?_
  refine g_iload D429 317 at_315 rfl rfl ?_
  refine g_iconst D429 318 (2 : Int32) at_317 rfl rfl ?_
  refine g_iload D429 320 at_318 rfl rfl ?_
  refine g_iload D429 322 at_320 rfl rfl ?_
  refine g_callSp D429 325 (hw _ w_37) (hw _ w_38) (hw _ w_3) (hw _ w_39) (by decide) ((cOt l Z a0 hw [] c2 (2 : Int32) fr nn h9 n0 Z9).back D429 1 (hw _ w_39) (hw _ w_3) (by decide) (by decide)) rfl [(.int c2), (.int (2 : Int32)), (.int fr), (.int nn)] rfl (lenOf pd_18 rfl) rfl (Nat.le_of_eq rfl) (by decide) (by decide) at_322 rfl ?_
  intro v430 T430 q430 D430
  subst q430
  show Go p e below _ (T430.setTop (mkF m 325 #[.val (.int len), .val (.int i1), .val (.int i2), .val (.int i3), .val (.int i4), .val (.int nn), .val (.int c0), .val (.int c1), .val (.int c2), .val (.int c3), .val (.ref xx), .val (.int fr), .val (.int ((((own_g (0 : Int32) fr nn (own_kd (own_cls c0))) + (own_g (1 : Int32) fr nn (own_kd (own_cls c1)))) + (own_g (2 : Int32) fr nn (own_kd (own_cls c2)))) + (own_g (3 : Int32) fr nn (own_kd (own_cls c3))))), .val (.int ((((own_g (0 : Int32) fr nn (own_kp (own_cls c0))) + (own_g (1 : Int32) fr nn (own_kp (own_cls c1)))) + (own_g (2 : Int32) fr nn (own_kp (own_cls c2)))) + (own_g (3 : Int32) fr nn (own_kp (own_cls c3))))), .unset, .unset] [(.int (own_g (2 : Int32) fr nn (own_ko (own_cls c2)))), (.int ((own_g (0 : Int32) fr nn (own_ko (own_cls c0))) + (own_g (1 : Int32) fr nn (own_ko (own_cls c1)))))]))
  refine g_iadd D430 326 at_325 rfl ?_
  refine g_iload D430 328 at_326 rfl rfl ?_
  refine g_iconst D430 329 (3 : Int32) at_328 rfl rfl ?_
  refine g_iload D430 331 at_329 rfl rfl ?_
  refine g_iload D430 333 at_331 rfl rfl ?_
  refine g_callSp D430 336 (hw _ w_37) (hw _ w_38) (hw _ w_3) (hw _ w_39) (by decide) ((cOt l Z a0 hw [] c3 (3 : Int32) fr nn h9 n0 Z9).back D430 1 (hw _ w_39) (hw _ w_3) (by decide) (by decide)) rfl [(.int c3), (.int (3 : Int32)), (.int fr), (.int nn)] rfl (lenOf pd_18 rfl) rfl (Nat.le_of_eq rfl) (by decide) (by decide) at_333 rfl ?_
  intro v431 T431 q431 D431
  subst q431
  show Go p e below _ (T431.setTop (mkF m 336 #[.val (.int len), .val (.int i1), .val (.int i2), .val (.int i3), .val (.int i4), .val (.int nn), .val (.int c0), .val (.int c1), .val (.int c2), .val (.int c3), .val (.ref xx), .val (.int fr), .val (.int ((((own_g (0 : Int32) fr nn (own_kd (own_cls c0))) + (own_g (1 : Int32) fr nn (own_kd (own_cls c1)))) + (own_g (2 : Int32) fr nn (own_kd (own_cls c2)))) + (own_g (3 : Int32) fr nn (own_kd (own_cls c3))))), .val (.int ((((own_g (0 : Int32) fr nn (own_kp (own_cls c0))) + (own_g (1 : Int32) fr nn (own_kp (own_cls c1)))) + (own_g (2 : Int32) fr nn (own_kp (own_cls c2)))) + (own_g (3 : Int32) fr nn (own_kp (own_cls c3))))), .unset, .unset] [(.int (own_g (3 : Int32) fr nn (own_ko (own_cls c3)))), (.int (((own_g (0 : Int32) fr nn (own_ko (own_cls c0))) + (own_g (1 : Int32) fr nn (own_ko (own_cls c1)))) + (own_g (2 : Int32) fr nn (own_ko (own_cls c2)))))]))
  refine g_iadd D431 337 at_336 rfl ?_
  refine g_istore D431 339 #[.val (.int len), .val (.int i1), .val (.int i2), .val (.int i3), .val (.int i4), .val (.int nn), .val (.int c0), .val (.int c1), .val (.int c2), .val (.int c3), .val (.ref xx), .val (.int fr), .val (.int ((((own_g (0 : Int32) fr nn (own_kd (own_cls c0))) + (own_g (1 : Int32) fr nn (own_kd (own_cls c1)))) + (own_g (2 : Int32) fr nn (own_kd (own_cls c2)))) + (own_g (3 : Int32) fr nn (own_kd (own_cls c3))))), .val (.int ((((own_g (0 : Int32) fr nn (own_kp (own_cls c0))) + (own_g (1 : Int32) fr nn (own_kp (own_cls c1)))) + (own_g (2 : Int32) fr nn (own_kp (own_cls c2)))) + (own_g (3 : Int32) fr nn (own_kp (own_cls c3))))), .val (.int ((((own_g (0 : Int32) fr nn (own_ko (own_cls c0))) + (own_g (1 : Int32) fr nn (own_ko (own_cls c1)))) + (own_g (2 : Int32) fr nn (own_ko (own_cls c2)))) + (own_g (3 : Int32) fr nn (own_ko (own_cls c3))))), .unset] at_337 rfl rfl ?_
  generalize heDD : ((((own_g (0 : Int32) fr nn (own_kd (own_cls c0))) + (own_g (1 : Int32) fr nn (own_kd (own_cls c1)))) + (own_g (2 : Int32) fr nn (own_kd (own_cls c2)))) + (own_g (3 : Int32) fr nn (own_kd (own_cls c3)))) = DD
  generalize hePP : ((((own_g (0 : Int32) fr nn (own_kp (own_cls c0))) + (own_g (1 : Int32) fr nn (own_kp (own_cls c1)))) + (own_g (2 : Int32) fr nn (own_kp (own_cls c2)))) + (own_g (3 : Int32) fr nn (own_kp (own_cls c3)))) = PP
  generalize heOO : ((((own_g (0 : Int32) fr nn (own_ko (own_cls c0))) + (own_g (1 : Int32) fr nn (own_ko (own_cls c1)))) + (own_g (2 : Int32) fr nn (own_ko (own_cls c2)))) + (own_g (3 : Int32) fr nn (own_ko (own_cls c3)))) = OO
  refine g_iload D431 341 at_339 rfl rfl ?_
  suffices K432 : ∀ ex : Int32, own_R (OO = (0 : Int32) ∧ ¬ (1 : Int32) < PP ∧ ¬ DD < (1 : Int32)) ex → Go p e below (WG Z consts_1 s (fun v h L => v = some (.int 1) ∧ Fr n0 L) 24 1152) (T431.setTop (mkF m 361 #[.val (.int len), .val (.int i1), .val (.int i2), .val (.int i3), .val (.int i4), .val (.int nn), .val (.int c0), .val (.int c1), .val (.int c2), .val (.int c3), .val (.ref xx), .val (.int fr), .val (.int DD), .val (.int PP), .val (.int OO), .unset] [(.int ex)])) by
    by_cases hr433 : OO = (0 : Int32)
    · refine g_ifN D431 344 at_341 (teq hr433).2 rfl ?_
      refine g_iload D431 346 at_344 rfl rfl ?_
      refine g_iconst D431 347 (1 : Int32) at_346 rfl rfl ?_
      by_cases hr434 : (1 : Int32) < PP
      · refine g_icmpY D431 360 at_347 (tlt hr434).2.2.1 (by decide) (by decide) ?_
        refine g_iconst D431 361 (0 : Int32) at_360 rfl rfl ?_
        exact K432 _ (own_l71 hr433 hr434)
      refine g_icmpN D431 350 at_347 (flt hr434).2.2.1 rfl ?_
      refine g_iload D431 352 at_350 rfl rfl ?_
      refine g_iconst D431 353 (1 : Int32) at_352 rfl rfl ?_
      by_cases hr435 : DD < (1 : Int32)
      · refine g_icmpY D431 360 at_353 (tlt hr435).1 (by decide) (by decide) ?_
        refine g_iconst D431 361 (0 : Int32) at_360 rfl rfl ?_
        exact K432 _ (own_l72 hr433 hr434 hr435)
      refine g_icmpN D431 356 at_353 (flt hr435).1 rfl ?_
      refine g_iconst D431 357 (1 : Int32) at_356 rfl rfl ?_
      refine g_goto D431 361 at_357 (by decide) (by decide) ?_
      exact K432 _ (own_l73 hr433 hr434 hr435)
    refine g_ifY D431 360 at_341 (feq hr433).2 (by decide) (by decide) ?_
    refine g_iconst D431 361 (0 : Int32) at_360 rfl rfl ?_
    exact K432 _ (own_l74 hr433)
  intro ex hex
  refine g_istore D431 363 #[.val (.int len), .val (.int i1), .val (.int i2), .val (.int i3), .val (.int i4), .val (.int nn), .val (.int c0), .val (.int c1), .val (.int c2), .val (.int c3), .val (.ref xx), .val (.int fr), .val (.int DD), .val (.int PP), .val (.int OO), .val (.int ex)] at_361 rfl rfl ?_
  refine g_aload D431 365 at_363 rfl rfl rfl ?_
  rcases SX with ⟨rfl, XX⟩ | ⟨rfl, XX⟩ | ⟨rfl, XX⟩ | ⟨rfl, XX⟩ | ⟨rfl, XX⟩
  · refine g_callSp D431 368 (hw _ w_40) (hw _ w_41) (hw _ w_42) (hw _ w_43) (by decide) ((cPl_0 l Z a0 hw [] xx zc fm  h9 n0 Z9 OLD9 SA SH SL CS hzc SFm rfm XX).back D431 0 (hw _ w_43) (hw _ w_42) (by decide) (by decide)) rfl [(.ref xx)] rfl (lenOf pd_19 rfl) rfl (Nat.le_of_eq rfl) (by decide) (by decide) at_365 rfl ?_
    intro v436 T436 q436 D436
    subst q436
    show Go p e below _ (T436.setTop (mkF m 368 #[.val (.int len), .val (.int i1), .val (.int i2), .val (.int i3), .val (.int i4), .val (.int (0 : Int32)), .val (.int c0), .val (.int c1), .val (.int c2), .val (.int c3), .val (.ref xx), .val (.int fr), .val (.int DD), .val (.int PP), .val (.int OO), .val (.int ex)] [(.int (own_run [] 0 0))]))
    rw [own_fin_0 hfr heDD hePP heOO hex]
    refine g_iload D436 370 at_368 rfl rfl ?_
    refine g_icmpN D436 373 at_370 (teq rfl).2 rfl ?_
    refine g_iconst D436 374 (1 : Int32) at_373 rfl rfl ?_
    refine g_goto D436 378 at_374 (by decide) (by decide) ?_
    exact r_Nw D436 hEW hret (by simp) hlk at_378 ⟨own_r1, NF9⟩ (by decide) (by decide)
  · refine g_callSp D431 368 (hw _ w_40) (hw _ w_41) (hw _ w_42) (hw _ w_43) (by decide) ((cPl_1 l Z a0 hw [] xx zc fm c0 h9 n0 Z9 OLD9 SA SH SL CS hzc SFm rfm XX).back D431 0 (hw _ w_43) (hw _ w_42) (by decide) (by decide)) rfl [(.ref xx)] rfl (lenOf pd_19 rfl) rfl (Nat.le_of_eq rfl) (by decide) (by decide) at_365 rfl ?_
    intro v437 T437 q437 D437
    subst q437
    show Go p e below _ (T437.setTop (mkF m 368 #[.val (.int len), .val (.int i1), .val (.int i2), .val (.int i3), .val (.int i4), .val (.int (1 : Int32)), .val (.int c0), .val (.int c1), .val (.int c2), .val (.int c3), .val (.ref xx), .val (.int fr), .val (.int DD), .val (.int PP), .val (.int OO), .val (.int ex)] [(.int (if own_sg c0 then (own_run [] 0 0) else (own_run [own_cls c0] 0 0)))]))
    rw [own_fin_1 hfr heDD hePP heOO hex]
    refine g_iload D437 370 at_368 rfl rfl ?_
    refine g_icmpN D437 373 at_370 (teq rfl).2 rfl ?_
    refine g_iconst D437 374 (1 : Int32) at_373 rfl rfl ?_
    refine g_goto D437 378 at_374 (by decide) (by decide) ?_
    exact r_Nw D437 hEW hret (by simp) hlk at_378 ⟨own_r1, NF9⟩ (by decide) (by decide)
  · refine g_callSp D431 368 (hw _ w_40) (hw _ w_41) (hw _ w_42) (hw _ w_43) (by decide) ((cPl_2 l Z a0 hw [] xx zc fm c0 c1 h9 n0 Z9 OLD9 SA SH SL CS hzc SFm rfm XX).back D431 0 (hw _ w_43) (hw _ w_42) (by decide) (by decide)) rfl [(.ref xx)] rfl (lenOf pd_19 rfl) rfl (Nat.le_of_eq rfl) (by decide) (by decide) at_365 rfl ?_
    intro v438 T438 q438 D438
    subst q438
    show Go p e below _ (T438.setTop (mkF m 368 #[.val (.int len), .val (.int i1), .val (.int i2), .val (.int i3), .val (.int i4), .val (.int (2 : Int32)), .val (.int c0), .val (.int c1), .val (.int c2), .val (.int c3), .val (.ref xx), .val (.int fr), .val (.int DD), .val (.int PP), .val (.int OO), .val (.int ex)] [(.int (if own_sg c0 then (own_run [own_cls c1] 0 0) else (own_run [own_cls c0, own_cls c1] 0 0)))]))
    rw [own_fin_2 hfr heDD hePP heOO hex]
    refine g_iload D438 370 at_368 rfl rfl ?_
    refine g_icmpN D438 373 at_370 (teq rfl).2 rfl ?_
    refine g_iconst D438 374 (1 : Int32) at_373 rfl rfl ?_
    refine g_goto D438 378 at_374 (by decide) (by decide) ?_
    exact r_Nw D438 hEW hret (by simp) hlk at_378 ⟨own_r1, NF9⟩ (by decide) (by decide)
  · refine g_callSp D431 368 (hw _ w_40) (hw _ w_41) (hw _ w_42) (hw _ w_43) (by decide) ((cPl_3 l Z a0 hw [] xx zc fm c0 c1 c2 h9 n0 Z9 OLD9 SA SH SL CS hzc SFm rfm XX).back D431 0 (hw _ w_43) (hw _ w_42) (by decide) (by decide)) rfl [(.ref xx)] rfl (lenOf pd_19 rfl) rfl (Nat.le_of_eq rfl) (by decide) (by decide) at_365 rfl ?_
    intro v439 T439 q439 D439
    subst q439
    show Go p e below _ (T439.setTop (mkF m 368 #[.val (.int len), .val (.int i1), .val (.int i2), .val (.int i3), .val (.int i4), .val (.int (3 : Int32)), .val (.int c0), .val (.int c1), .val (.int c2), .val (.int c3), .val (.ref xx), .val (.int fr), .val (.int DD), .val (.int PP), .val (.int OO), .val (.int ex)] [(.int (if own_sg c0 then (own_run [own_cls c1, own_cls c2] 0 0) else (own_run [own_cls c0, own_cls c1, own_cls c2] 0 0)))]))
    rw [own_fin_3 hfr heDD hePP heOO hex]
    refine g_iload D439 370 at_368 rfl rfl ?_
    refine g_icmpN D439 373 at_370 (teq rfl).2 rfl ?_
    refine g_iconst D439 374 (1 : Int32) at_373 rfl rfl ?_
    refine g_goto D439 378 at_374 (by decide) (by decide) ?_
    exact r_Nw D439 hEW hret (by simp) hlk at_378 ⟨own_r1, NF9⟩ (by decide) (by decide)
  · refine g_callSp D431 368 (hw _ w_40) (hw _ w_41) (hw _ w_42) (hw _ w_43) (by decide) ((cPl_4 l Z a0 hw [] xx zc fm c0 c1 c2 c3 h9 n0 Z9 OLD9 SA SH SL CS hzc SFm rfm XX).back D431 0 (hw _ w_43) (hw _ w_42) (by decide) (by decide)) rfl [(.ref xx)] rfl (lenOf pd_19 rfl) rfl (Nat.le_of_eq rfl) (by decide) (by decide) at_365 rfl ?_
    intro v440 T440 q440 D440
    subst q440
    show Go p e below _ (T440.setTop (mkF m 368 #[.val (.int len), .val (.int i1), .val (.int i2), .val (.int i3), .val (.int i4), .val (.int (4 : Int32)), .val (.int c0), .val (.int c1), .val (.int c2), .val (.int c3), .val (.ref xx), .val (.int fr), .val (.int DD), .val (.int PP), .val (.int OO), .val (.int ex)] [(.int (if own_sg c0 then (own_run [own_cls c1, own_cls c2, own_cls c3] 0 0) else (own_run [own_cls c0, own_cls c1, own_cls c2, own_cls c3] 0 0)))]))
    rw [own_fin_4 hfr heDD hePP heOO hex]
    refine g_iload D440 370 at_368 rfl rfl ?_
    refine g_icmpN D440 373 at_370 (teq rfl).2 rfl ?_
    refine g_iconst D440 374 (1 : Int32) at_373 rfl rfl ?_
    refine g_goto D440 378 at_374 (by decide) (by decide) ?_
    exact r_Nw D440 hEW hret (by simp) hlk at_378 ⟨own_r1, NF9⟩ (by decide) (by decide)
theorem comes_1 {Post : Tables → Env → Array Value → State → Outcome → State → Prop} (hpost : ∀ tb e args s v u, (limb_1_1.after args s (.returned v) u = true ∧ limb_1_2.after args s (.returned v) u = true ∧ True) → ReturnedEndW s (.returned v) u (Jvm.fieldLocs frame_1_writes args s ++ Jvm.arrayLocs frame_1_arrays args s ++ Jvm.staticLocs frame_1_statics s) 24 1152 → Post tb e args s (.returned v) u) :
    ArmFor flags0 classFile x code maxLocals ret World_1 tables_1 room_1 Calls_1 rest_1 Pre_1 Post := by
  intro l hfl _ _ p e ha hc hk s m args below hf hA hF happ hP
  obtain ⟨hcalls, hrest, hpre⟩ := hP
  obtain ⟨-, -, -, hnamed, -, -, -, hat⟩ := (Spec.applies_iff hf).mp happ
  obtain ⟨hg, hn⟩ := and_e (Cond.before_iff.mp (show (Jvm.Cond.and given_1 narrow_1).before args s = true from hpre))
  obtain ⟨g1, gr1⟩ := and_e hg
  obtain ⟨g2, gr2⟩ := and_e gr1
  obtain ⟨g3, gr3⟩ := and_e gr2
  obtain ⟨g4, gr4⟩ := and_e gr3
  obtain ⟨g5, g6⟩ := and_e gr4
  obtain ⟨w0, w1, w2, w3, w4, rfl⟩ : ∃ w0 w1 w2 w3 w4 : Value, args = #[w0, w1, w2, w3, w4] := by
    have hs : args.size = 5 := by simpa [Cond.value, given_1] using g1
    obtain ⟨L⟩ := args
    match L, hs with
    | [w0, w1, w2, w3, w4], _ => exact ⟨w0, w1, w2, w3, w4, rfl⟩
  have hw := fun d (hd : d ∈ tables_1) => atoms_spec (ws := Jvm.Cond.code x code maxLocals ret :: tables_1) hat d (List.mem_cons_of_mem _ hd)
  obtain ⟨hsets, hown0⟩ := atoms_of _ (rest_1_c_eq ▸ (show rest_1_c.before _ s = true from hrest))
  have hfit : Fit s := fun {y c} hc i hi => by
    obtain ⟨ha, rfl⟩ := Array.getElem?_eq_some_iff.mp hc
    have q := List.all_eq_true.mp ((Array.all_eq_true_iff_forall_mem.mp hF) _ (Array.getElem_mem ha)) i (List.mem_range.mpr hi)
    simpa [Array.getElem?_eq_getElem hi] using q
  have c3 := not_v (Cond.before_iff.mp (hsets _ (List.mem_of_getElem? (i := 2) rfl)))
  obtain ⟨i0, ei0⟩ := is_v g2
  obtain rfl : w0 = (.int i0) := Option.some.inj ei0
  obtain ⟨i1, ei1⟩ := is_v g3
  obtain rfl : w1 = (.int i1) := Option.some.inj ei1
  obtain ⟨i2, ei2⟩ := is_v g4
  obtain rfl : w2 = (.int i2) := Option.some.inj ei2
  obtain ⟨i3, ei3⟩ := is_v g5
  obtain rfl : w3 = (.int i3) := Option.some.inj ei3
  obtain ⟨i4, ei4⟩ := is_v g6
  obtain rfl : w4 = (.int i4) := Option.some.inj ei4
  obtain ⟨zc, ec⟩ := is_v (Cond.before_iff.mp (hsets _ (List.mem_of_getElem? (i := 1) rfl)))
  have CS : Sta s s.heap "java/lang/String" "COMPACT_STRINGS" "Z" (.int zc) := Sta.start ec (Or.inl (hsets _ (List.mem_of_getElem? (i := 0) rfl)))
  have hzc : ¬ (zc = (0 : Int32)) := gotF (Cond.eq_ints ec (Term.int_eval (0))) c3
  obtain ⟨fm, ef, rfm⟩ := isR_v (Cond.before_iff.mp (hsets _ (List.mem_of_getElem? (i := 8) rfl)))
  have SF : Sta s s.heap "jdk/internal/util/Preconditions" "SIOOBE_FORMATTER" "Ljava/util/function/BiFunction;" fm := Sta.start ef (Or.inl (hsets _ (List.mem_of_getElem? (i := 7) rfl)))
  have hEW : EW s _ consts_1 := (EW.cons (hw _ w_20) (by decide) EW.nil)
  have hCH : CHv s consts_1 s.vm s.heap := CHv.start hEW hcalls.1 (hsets _ (List.mem_of_getElem? (i := 2) rfl)) (hw _ w_21) (hw _ w_7)
  have SA : Sta s s.heap "java/lang/StringUTF16" "$assertionsDisabled" "Z" (.int (1 : Int32)) := Sta.start (eqv_i (Term.int_eval (1)) (Cond.before_iff.mp (hsets _ (List.mem_of_getElem? (i := 12) rfl)))) (Or.inl (hsets _ (List.mem_of_getElem? (i := 11) rfl)))
  have SH : Sta s s.heap "java/lang/StringUTF16" "HI_BYTE_SHIFT" "I" (.int (0 : Int32)) := Sta.start (eqv_i (Term.int_eval (0)) (Cond.before_iff.mp (hsets _ (List.mem_of_getElem? (i := 15) rfl)))) (Or.inl (hsets _ (List.mem_of_getElem? (i := 14) rfl)))
  have SL : Sta s s.heap "java/lang/StringUTF16" "LO_BYTE_SHIFT" "I" (.int (8 : Int32)) := Sta.start (eqv_i (Term.int_eval (8)) (Cond.before_iff.mp (hsets _ (List.mem_of_getElem? (i := 18) rfl)))) (Or.inl (hsets _ (List.mem_of_getElem? (i := 17) rfl)))
  obtain ⟨n, o, h1, h2, h3, _, L, rfl, ⟨rfl, N⟩, -, hq⟩ := cX l s _ hw tables_1 i0 i1 i2 i3 i4 zc fm s.heap s.heap.size (Nat.le_refl _) hEW (Old.start s) SA SH SL CS hzc SF rfm p e ha hc hk s m _ below hf ((Spec.applies_iff_loose hf).mp happ).1 ⟨rfl, State.Warmed39.refl s, rfl, hCH⟩ trivial
  refine ⟨n, _, h1, h2, h3, hpost _ _ _ _ _ _ ⟨Cond.after_iff.mpr rfl, Cond.after_iff.mpr (eq_i res_at (Term.int_eval (1)) rfl), trivial⟩ ⟨hq.1, hq.2.1, hq.2.2.1, (hq.2.2.2.sift fun y hy => Or.inr (N y hy)).mono (by decide) (by decide)⟩⟩
theorem main_1_1 : Claimed_1_1 := comes_1 fun _ _ _ _ _ _ h hF => ⟨h.1, hF⟩
theorem main_1_2 : Claimed_1_2 := comes_1 fun _ _ _ _ _ _ h hF => ⟨h.2.1, hF⟩
end Jvm.Pilot.@@N@@
namespace Jvm.Pilot.@@N@@
open Jvm Jvm.ClassFile Sem Op Lib Jvm.Free Jvm.Stand Jvm.Pilot.@@N@@.Jvm.D
/-! MADE BY PROGRAM (witnessworld.py) out of the Statement's table words and the real class files: 20 classes; the members and pool entries that the words name. The judged class is class 1, her method 1. -/
namespace start1
open Jvm.ClassFile
def u (s : String) : CpInfo := .utf8 (stringToUtf16 s)
/-- a pool by its gaps: so many unusable entries, then the entry; so many at the end -/
def gap : Nat → List CpInfo → List CpInfo
  | 0, r => r
  | n + 1, r => .unusable :: gap n r
def poolList (es : List (Nat × CpInfo)) (last : Nat) : List CpInfo := es.foldr (fun e r => gap e.1 (e.2 :: r)) (gap last [])
def pool (es : List (Nat × CpInfo)) (last : Nat) : Array CpInfo := ⟨poolList es last⟩
def fileOf (pool : Array CpInfo) (this : Nat) (attrs : Array Attribute := #[]) (ms : Array MethodInfo := #[]) (fl : Nat := 33) (sup : Nat := 0) (ifs : Array Nat := #[]) (fds : Array FieldInfo := #[]) : ClassFile where
  minorVersion := 0
  majorVersion := 65
  constantPool := pool
  accessFlags := fl
  thisClass := this
  superClass := sup
  interfaces := ifs
  fields := fds
  methods := ms
  attributes := attrs
def plain (name : String) (sup : Option ClassId) : Class where
  name := name
  kind := .ordinary
  loader := none
  accessFlags := 33
  super := sup
  interfaces := #[]
  cf := none
  fields := #[]
  methods := #[]
  instanceTypes := #[]
  staticTypes := #[]
  resolved := #[]
  callSites := []
  init := .initialized
  statics := none
  mirror := none

def pool0 : Array CpInfo := pool [(5, u "<init>"), (0, u "()V"), (1, .class_ 10), (1, u "java/lang/Object")] 113

def k0c0 : Code := { maxStack := 0, maxLocals := 1, code := object_method_1_code, exceptionTable := #[], attributes := #[] }
def k0m0 : Method := { name := "<init>", desc := "()V", sig := { parameters := [], returnType := none }, accessFlags := 1, code := some k0c0 }
/-- java/lang/Object -/
def k0 : Class := { plain "java/lang/Object" none with
  accessFlags := 33
  interfaces := #[]
  cf := some (fileOf pool0 8 #[] #[{ accessFlags := 1, nameIndex := 5, descriptorIndex := 6, attributes := #[] }] 33 0 #[] #[])
  fields := #[]
  methods := #[k0m0]
  instanceTypes := #[]
  staticTypes := #[]
  resolved := Array.replicate 124 none
  statics := none }

def pool1 : Array CpInfo := pool [(2, .class_ 4), (1, u "java/lang/Object"), (0, u "<init>"), (0, u "()V"), (0, .integer 2147483647), (0, .methodref 9 10), (0, .class_ 11), (0, .nameAndType 12 13), (0, u "com/example/twelfths/twelfths/input/PlainDecimalIsPlainPinLaw"), (0, u "draw"), (0, u "(I)C"), (0, .class_ 15), (0, u "java/lang/String"), (0, .methodref 14 17), (0, .nameAndType 5 18), (0, u "([C)V"), (0, .methodref 9 20), (0, .nameAndType 21 22), (0, u "dig"), (0, u "(CIII)I"), (0, .methodref 9 24), (0, .nameAndType 25 22), (0, u "pt"), (0, .methodref 9 27), (0, .nameAndType 28 22), (0, u "other"), (0, .methodref 30 31), (0, .class_ 32), (0, .nameAndType 33 34), (0, u "com/example/twelfths/twelfths/input/PlainDecimal"), (0, u "isPlain"), (0, u "(Ljava/lang/CharSequence;)Z"), (0, .integer 65535), (0, .methodref 9 37), (0, .nameAndType 38 39), (0, u "in"), (0, u "(III)Z"), (0, .methodref 9 41), (0, .nameAndType 42 43), (0, u "isDigit"), (0, u "(C)Z"), (2, u "law"), (0, u "(IIIII)Z")] 3

def k1m0 : Method := { name := "<init>", desc := "()V", sig := { parameters := [], returnType := none }, accessFlags := 2, code := none }
def k1c1 : Code := { maxStack := 6, maxLocals := 16, code := code, exceptionTable := #[], attributes := #[] }
def k1m1 : Method := { name := "law", desc := "(IIIII)Z", sig := { parameters := [.int, .int, .int, .int, .int], returnType := some .boolean }, accessFlags := 9, code := some k1c1 }
def k1c2 : Code := { maxStack := 3, maxLocals := 3, code := method_3_code, exceptionTable := #[], attributes := #[] }
def k1m2 : Method := { name := "draw", desc := "(I)C", sig := { parameters := [.int], returnType := some .char }, accessFlags := 10, code := some k1c2 }
def k1c3 : Code := { maxStack := 2, maxLocals := 3, code := method_4_code, exceptionTable := #[], attributes := #[] }
def k1m3 : Method := { name := "in", desc := "(III)Z", sig := { parameters := [.int, .int, .int], returnType := some .boolean }, accessFlags := 10, code := some k1c3 }
def k1c4 : Code := { maxStack := 2, maxLocals := 1, code := method_5_code, exceptionTable := #[], attributes := #[] }
def k1m4 : Method := { name := "isDigit", desc := "(C)Z", sig := { parameters := [.char], returnType := some .boolean }, accessFlags := 10, code := some k1c4 }
def k1c5 : Code := { maxStack := 3, maxLocals := 4, code := method_6_code, exceptionTable := #[], attributes := #[] }
def k1m5 : Method := { name := "dig", desc := "(CIII)I", sig := { parameters := [.char, .int, .int, .int], returnType := some .int }, accessFlags := 10, code := some k1c5 }
def k1c6 : Code := { maxStack := 3, maxLocals := 4, code := method_7_code, exceptionTable := #[], attributes := #[] }
def k1m6 : Method := { name := "pt", desc := "(CIII)I", sig := { parameters := [.char, .int, .int, .int], returnType := some .int }, accessFlags := 10, code := some k1c6 }
def k1c7 : Code := { maxStack := 3, maxLocals := 4, code := method_8_code, exceptionTable := #[], attributes := #[] }
def k1m7 : Method := { name := "other", desc := "(CIII)I", sig := { parameters := [.char, .int, .int, .int], returnType := some .int }, accessFlags := 10, code := some k1c7 }
/-- com/example/twelfths/twelfths/input/PlainDecimalIsPlainPinLaw -/
def k1 : Class := { plain "com/example/twelfths/twelfths/input/PlainDecimalIsPlainPinLaw" (some 0) with
  accessFlags := 49
  interfaces := #[]
  cf := some (fileOf pool1 9 #[] #[{ accessFlags := 2, nameIndex := 5, descriptorIndex := 6, attributes := #[] }, { accessFlags := 9, nameIndex := 46, descriptorIndex := 47, attributes := #[] }, { accessFlags := 10, nameIndex := 12, descriptorIndex := 13, attributes := #[] }, { accessFlags := 10, nameIndex := 38, descriptorIndex := 39, attributes := #[] }, { accessFlags := 10, nameIndex := 42, descriptorIndex := 43, attributes := #[] }, { accessFlags := 10, nameIndex := 21, descriptorIndex := 22, attributes := #[] }, { accessFlags := 10, nameIndex := 25, descriptorIndex := 22, attributes := #[] }, { accessFlags := 10, nameIndex := 28, descriptorIndex := 22, attributes := #[] }] 49 2 #[] #[])
  fields := #[]
  methods := #[k1m0, k1m1, k1m2, k1m3, k1m4, k1m5, k1m6, k1m7]
  instanceTypes := #[]
  staticTypes := #[]
  resolved := Array.replicate 51 none
  statics := none }

def pool2 : Array CpInfo := pool [(1, .class_ 2), (0, u "java/io/Serializable"), (0, .class_ 4), (0, u "java/lang/Object")] 2

/-- java/io/Serializable -/
def k2 : Class := { plain "java/io/Serializable" (some 0) with
  accessFlags := 1537
  interfaces := #[]
  cf := some (fileOf pool2 1 #[] #[] 1537 3 #[] #[])
  fields := #[]
  methods := #[]
  instanceTypes := #[]
  staticTypes := #[]
  resolved := Array.replicate 7 none
  statics := none }

def pool3 : Array CpInfo := pool [(1, .class_ 2), (0, u "java/lang/Comparable"), (0, .class_ 4), (0, u "java/lang/Object")] 7

/-- java/lang/Comparable -/
def k3 : Class := { plain "java/lang/Comparable" (some 0) with
  accessFlags := 1537
  interfaces := #[]
  cf := some (fileOf pool3 1 #[] #[] 1537 3 #[] #[])
  fields := #[]
  methods := #[]
  instanceTypes := #[]
  staticTypes := #[]
  resolved := Array.replicate 12 none
  statics := none }

def pool4 : Array CpInfo := pool [(2, .class_ 4), (1, u "java/lang/CharSequence"), (0, u "length"), (0, u "()I"), (38, u "charAt"), (0, u "(I)C"), (0, .class_ 48), (0, u "java/lang/CharSequence$1CodePointIterator"), (10, .class_ 60), (0, u "java/lang/CharSequence$1CharIterator"), (5, .class_ 67), (0, u "java/lang/Object")] 63

def k4m0 : Method := { name := "length", desc := "()I", sig := { parameters := [], returnType := some .int }, accessFlags := 1025, code := none }
def k4m1 : Method := { name := "charAt", desc := "(I)C", sig := { parameters := [.int], returnType := some .char }, accessFlags := 1025, code := none }
/-- java/lang/CharSequence -/
def k4 : Class := { plain "java/lang/CharSequence" (some 0) with
  accessFlags := 1537
  interfaces := #[]
  cf := some (fileOf pool4 2 #[.nestMembers #[47, 59]] #[{ accessFlags := 1025, nameIndex := 5, descriptorIndex := 6, attributes := #[] }, { accessFlags := 1025, nameIndex := 45, descriptorIndex := 46, attributes := #[] }] 1537 66 #[] #[])
  fields := #[]
  methods := #[k4m0, k4m1]
  instanceTypes := #[]
  staticTypes := #[]
  resolved := Array.replicate 131 none
  statics := none }

def pool5 : Array CpInfo := pool [(1, .class_ 2), (0, u "java/lang/constant/Constable"), (0, .class_ 4), (0, u "java/lang/Object")] 6

/-- java/lang/constant/Constable -/
def k5 : Class := { plain "java/lang/constant/Constable" (some 0) with
  accessFlags := 1537
  interfaces := #[]
  cf := some (fileOf pool5 1 #[] #[] 1537 3 #[] #[])
  fields := #[]
  methods := #[]
  instanceTypes := #[]
  staticTypes := #[]
  resolved := Array.replicate 11 none
  statics := none }

def pool6 : Array CpInfo := pool [(1, .class_ 2), (0, u "java/lang/constant/ConstantDesc"), (0, .class_ 4), (0, u "java/lang/Object")] 32

/-- java/lang/constant/ConstantDesc -/
def k6 : Class := { plain "java/lang/constant/ConstantDesc" (some 0) with
  accessFlags := 1537
  interfaces := #[]
  cf := some (fileOf pool6 1 #[] #[] 1537 3 #[] #[])
  fields := #[]
  methods := #[]
  instanceTypes := #[]
  staticTypes := #[]
  resolved := Array.replicate 37 none
  statics := none }

def pool7 : Array CpInfo := pool [(1, .methodref 2 3), (0, .class_ 4), (0, .nameAndType 5 6), (0, u "java/lang/Object"), (0, u "<init>"), (0, u "()V"), (0, .string 8), (0, u ""), (0, .fieldref 10 11), (0, .class_ 12), (0, .nameAndType 13 14), (0, u "java/lang/String"), (0, u "value"), (0, u "[B"), (0, .fieldref 10 16), (0, .nameAndType 17 18), (0, u "coder"), (0, u "B"), (2, u "hash"), (0, u "I"), (2, u "hashIsZero"), (0, u "Z"), (0, .methodref 10 28), (0, .nameAndType 5 29), (0, u "([CIILjava/lang/Void;)V"), (8, .fieldref 10 39), (0, .nameAndType 40 26), (0, u "COMPACT_STRINGS"), (1, .class_ 44), (1, u "java/lang/StringUTF16"), (0, u "compress"), (1, .methodref 42 48), (0, .nameAndType 49 50), (0, u "coderFromArrayLen"), (0, u "([BI)B"), (56, .class_ 109), (1, u "java/lang/StringLatin1"), (32, u "()Z"), (34, .methodref 42 178), (0, .nameAndType 45 179), (0, u "([CII)[B"), (154, u "()I"), (0, .methodref 10 336), (0, .nameAndType 17 337), (0, u "()B"), (25, u "([BI)C"), (27, u "(II)V"), (35, u "(I)C"), (64, .methodref 10 493), (0, .nameAndType 494 142), (0, u "isLatin1"), (0, .methodref 107 496), (0, .nameAndType 497 363), (0, u "charAt"), (0, .methodref 42 496), (2, u "checkIndex"), (5, u "length"), (67, .class_ 576), (0, u "java/lang/CharSequence"), (22, u "CASE_INSENSITIVE_ORDER"), (0, u "Ljava/util/Comparator;"), (409, u "([C)V"), (42, .fieldref 1054 1055), (0, .class_ 1056), (0, .nameAndType 1057 1058), (0, u "jdk/internal/util/Preconditions"), (0, u "SIOOBE_FORMATTER"), (0, u "Ljava/util/function/BiFunction;"), (0, .methodref 1054 1060), (0, .nameAndType 501 1061), (0, u "(IILjava/util/function/BiFunction;)I"), (39, u "serialPersistentFields"), (0, u "[Ljava/io/ObjectStreamField;"), (0, .class_ 1104), (0, u "java/lang/String$CaseInsensitiveComparator"), (1, .class_ 1107), (0, u "java/io/Serializable"), (0, .class_ 1109), (0, u "java/lang/Comparable"), (0, .class_ 1111), (0, u "java/lang/constant/Constable"), (0, .class_ 1113), (0, u "java/lang/constant/ConstantDesc"), (2, u "serialVersionUID"), (0, u "J"), (3, u "REPL"), (0, u "C"), (2, u "LATIN1"), (1, u "UTF16")] 323

def k7m0 : Method := { name := "<init>", desc := "()V", sig := { parameters := [], returnType := none }, accessFlags := 1, code := none }
def k7c1 : Code := { maxStack := 5, maxLocals := 2, code := jdk_42_method_3_code, exceptionTable := #[], attributes := #[] }
def k7m1 : Method := { name := "<init>", desc := "([C)V", sig := { parameters := [(.array .char)], returnType := none }, accessFlags := 1, code := some k7c1 }
def k7c2 : Code := { maxStack := 2, maxLocals := 1, code := jdk_42_method_54_code, exceptionTable := #[], attributes := #[] }
def k7m2 : Method := { name := "length", desc := "()I", sig := { parameters := [], returnType := some .int }, accessFlags := 1, code := some k7c2 }
def k7c3 : Code := { maxStack := 2, maxLocals := 2, code := jdk_42_method_56_code, exceptionTable := #[], attributes := #[] }
def k7m3 : Method := { name := "charAt", desc := "(I)C", sig := { parameters := [.int], returnType := some .char }, accessFlags := 1, code := some k7c3 }
def k7c4 : Code := { maxStack := 4, maxLocals := 6, code := jdk_42_method_149_code, exceptionTable := #[], attributes := #[] }
def k7m4 : Method := { name := "<init>", desc := "([CIILjava/lang/Void;)V", sig := { parameters := [(.array .char), .int, .int, (.object "java/lang/Void")], returnType := none }, accessFlags := 2, code := some k7c4 }
def k7c5 : Code := { maxStack := 1, maxLocals := 1, code := jdk_42_method_152_code, exceptionTable := #[], attributes := #[] }
def k7m5 : Method := { name := "coder", desc := "()B", sig := { parameters := [], returnType := some .byte }, accessFlags := 0, code := some k7c5 }
def k7c6 : Code := { maxStack := 1, maxLocals := 1, code := jdk_42_method_154_code, exceptionTable := #[], attributes := #[] }
def k7m6 : Method := { name := "isLatin1", desc := "()Z", sig := { parameters := [], returnType := some .boolean }, accessFlags := 0, code := some k7c6 }
def k7c7 : Code := { maxStack := 3, maxLocals := 2, code := jdk_42_method_155_code, exceptionTable := #[], attributes := #[] }
def k7m7 : Method := { name := "checkIndex", desc := "(II)V", sig := { parameters := [.int, .int], returnType := none }, accessFlags := 8, code := some k7c7 }
/-- java/lang/String -/
def k7 : Class := { plain "java/lang/String" (some 0) with
  accessFlags := 49
  interfaces := #[2, 3, 4, 5, 6]
  cf := some (fileOf pool7 10 #[.nestMembers #[1103]] #[{ accessFlags := 1, nameIndex := 5, descriptorIndex := 6, attributes := #[] }, { accessFlags := 1, nameIndex := 5, descriptorIndex := 1010, attributes := #[] }, { accessFlags := 1, nameIndex := 507, descriptorIndex := 334, attributes := #[] }, { accessFlags := 1, nameIndex := 497, descriptorIndex := 427, attributes := #[] }, { accessFlags := 2, nameIndex := 5, descriptorIndex := 29, attributes := #[] }, { accessFlags := 0, nameIndex := 17, descriptorIndex := 337, attributes := #[] }, { accessFlags := 0, nameIndex := 494, descriptorIndex := 142, attributes := #[] }, { accessFlags := 8, nameIndex := 501, descriptorIndex := 391, attributes := #[] }] 49 2 #[1106, 1108, 575, 1110, 1112] #[{ accessFlags := 18, nameIndex := 13, descriptorIndex := 14, attributes := #[] }, { accessFlags := 18, nameIndex := 17, descriptorIndex := 18, attributes := #[] }, { accessFlags := 2, nameIndex := 21, descriptorIndex := 22, attributes := #[] }, { accessFlags := 2, nameIndex := 25, descriptorIndex := 26, attributes := #[] }, { accessFlags := 26, nameIndex := 1116, descriptorIndex := 1117, attributes := #[] }, { accessFlags := 24, nameIndex := 40, descriptorIndex := 26, attributes := #[] }, { accessFlags := 26, nameIndex := 1101, descriptorIndex := 1102, attributes := #[] }, { accessFlags := 26, nameIndex := 1121, descriptorIndex := 1122, attributes := #[] }, { accessFlags := 25, nameIndex := 599, descriptorIndex := 600, attributes := #[] }, { accessFlags := 24, nameIndex := 1125, descriptorIndex := 18, attributes := #[] }, { accessFlags := 24, nameIndex := 1127, descriptorIndex := 18, attributes := #[] }])
  fields := #[{ name := "value", type := (.array .byte), accessFlags := 18, slot := 0, constantValue := 0 }, { name := "coder", type := .byte, accessFlags := 18, slot := 1, constantValue := 0 }, { name := "hash", type := .int, accessFlags := 2, slot := 2, constantValue := 0 }, { name := "hashIsZero", type := .boolean, accessFlags := 2, slot := 3, constantValue := 0 }, { name := "serialVersionUID", type := .long, accessFlags := 26, slot := 0, constantValue := 0 }, { name := "COMPACT_STRINGS", type := .boolean, accessFlags := 24, slot := 1, constantValue := 0 }, { name := "serialPersistentFields", type := (.array (.object "java/io/ObjectStreamField")), accessFlags := 26, slot := 2, constantValue := 0 }, { name := "REPL", type := .char, accessFlags := 26, slot := 3, constantValue := 0 }, { name := "CASE_INSENSITIVE_ORDER", type := (.object "java/util/Comparator"), accessFlags := 25, slot := 4, constantValue := 0 }, { name := "LATIN1", type := .byte, accessFlags := 24, slot := 5, constantValue := 0 }, { name := "UTF16", type := .byte, accessFlags := 24, slot := 6, constantValue := 0 }]
  methods := #[k7m0, k7m1, k7m2, k7m3, k7m4, k7m5, k7m6, k7m7]
  instanceTypes := #[(.array .byte), .byte, .int, .boolean]
  staticTypes := #[.long, .boolean, (.array (.object "java/io/ObjectStreamField")), .char, (.object "java/util/Comparator"), .byte, .byte]
  resolved := Array.replicate 1451 none
  statics := some 0 }

def pool8 : Array CpInfo := pool [(2, .class_ 4), (1, u "java/lang/Object"), (0, u "<init>"), (0, u "()V"), (0, .interfaceMethodref 8 9), (0, .class_ 10), (0, .nameAndType 11 12), (0, u "java/lang/CharSequence"), (0, u "length"), (0, u "()I"), (0, .interfaceMethodref 8 14), (0, .nameAndType 15 16), (0, u "charAt"), (0, u "(I)C"), (1, .class_ 20), (1, u "com/example/twelfths/twelfths/input/PlainDecimal"), (0, u "isPlain"), (0, u "(Ljava/lang/CharSequence;)Z"), (25, u "LONG_DIGITS"), (0, u "I")] 11

def k8m0 : Method := { name := "<init>", desc := "()V", sig := { parameters := [], returnType := none }, accessFlags := 2, code := none }
def k8c1 : Code := { maxStack := 2, maxLocals := 6, code := prog_29_method_2_code, exceptionTable := #[], attributes := #[] }
def k8m1 : Method := { name := "isPlain", desc := "(Ljava/lang/CharSequence;)Z", sig := { parameters := [(.object "java/lang/CharSequence")], returnType := some .boolean }, accessFlags := 8, code := some k8c1 }
/-- com/example/twelfths/twelfths/input/PlainDecimal -/
def k8 : Class := { plain "com/example/twelfths/twelfths/input/PlainDecimal" (some 0) with
  accessFlags := 48
  interfaces := #[]
  cf := some (fileOf pool8 18 #[] #[{ accessFlags := 2, nameIndex := 5, descriptorIndex := 6, attributes := #[] }, { accessFlags := 8, nameIndex := 21, descriptorIndex := 22, attributes := #[] }] 48 2 #[] #[{ accessFlags := 26, nameIndex := 48, descriptorIndex := 49, attributes := #[] }])
  fields := #[{ name := "LONG_DIGITS", type := .int, accessFlags := 26, slot := 0, constantValue := 0 }]
  methods := #[k8m0, k8m1]
  instanceTypes := #[]
  staticTypes := #[.int]
  resolved := Array.replicate 61 none
  statics := none }

def pool9 : Array CpInfo := pool [(3, .class_ 4), (0, u "java/lang/String"), (1, .class_ 8), (1, u "java/lang/Object"), (0, u "<init>"), (0, u "()V"), (0, .methodref 12 13), (0, .class_ 14), (0, .nameAndType 15 16), (0, u "java/lang/StringUTF16"), (0, u "newBytesLength"), (0, u "(I)I"), (3, .integer 1073741823), (23, .fieldref 12 45), (0, .nameAndType 46 47), (0, u "$assertionsDisabled"), (0, u "Z"), (0, .methodref 12 49), (0, .nameAndType 50 51), (0, u "length"), (0, u "([B)I"), (7, .fieldref 12 60), (0, .nameAndType 61 62), (0, u "HI_BYTE_SHIFT"), (0, u "I"), (0, .fieldref 12 64), (0, .nameAndType 65 62), (0, u "LO_BYTE_SHIFT"), (1, .methodref 12 68), (0, .nameAndType 69 70), (0, u "checkIndex"), (0, u "(I[B)V"), (0, .methodref 12 72), (0, .nameAndType 73 74), (0, u "getChar"), (0, u "([BI)C"), (32, .methodref 12 108), (0, .nameAndType 109 110), (0, u "newBytesFor"), (0, u "(I)[B"), (0, .methodref 12 112), (0, .nameAndType 113 114), (0, u "putChar"), (0, u "([BII)V"), (0, .methodref 12 116), (0, .nameAndType 117 118), (0, u "compress"), (0, u "([CI[BII)I"), (0, .methodref 12 120), (0, .nameAndType 121 122), (0, u "toBytes"), (0, u "([CII)[B"), (138, u "coderFromArrayLen"), (0, u "([BI)B"), (106, .class_ 371), (1, u "java/lang/StringUTF16$LinesSpliterator"), (20, u "charAt"), (21, .methodref 3 415), (0, .nameAndType 69 416), (0, u "(II)V"), (13, u "MAX_LENGTH"), (196, .class_ 628), (0, u "java/lang/StringUTF16$CodePointsSpliterator"), (0, .class_ 630), (0, u "java/lang/StringUTF16$CharsSpliterator")] 4

def k9m0 : Method := { name := "<init>", desc := "()V", sig := { parameters := [], returnType := none }, accessFlags := 0, code := none }
def k9c1 : Code := { maxStack := 1, maxLocals := 1, code := jdk_52_method_2_code, exceptionTable := #[], attributes := #[] }
def k9m1 : Method := { name := "newBytesFor", desc := "(I)[B", sig := { parameters := [.int], returnType := some (.array .byte) }, accessFlags := 9, code := some k9c1 }
def k9c2 : Code := { maxStack := 4, maxLocals := 1, code := jdk_52_method_3_code, exceptionTable := #[], attributes := #[] }
def k9m2 : Method := { name := "newBytesLength", desc := "(I)I", sig := { parameters := [.int], returnType := some .int }, accessFlags := 9, code := some k9c2 }
def k9c3 : Code := { maxStack := 4, maxLocals := 3, code := jdk_52_method_4_code, exceptionTable := #[], attributes := #[] }
def k9m3 : Method := { name := "putChar", desc := "([BII)V", sig := { parameters := [(.array .byte), .int, .int], returnType := none }, accessFlags := 8, code := some k9c3 }
def k9c4 : Code := { maxStack := 3, maxLocals := 2, code := jdk_52_method_5_code, exceptionTable := #[], attributes := #[] }
def k9m4 : Method := { name := "getChar", desc := "([BI)C", sig := { parameters := [(.array .byte), .int], returnType := some .char }, accessFlags := 8, code := some k9c4 }
def k9c5 : Code := { maxStack := 2, maxLocals := 1, code := jdk_52_method_6_code, exceptionTable := #[], attributes := #[] }
def k9m5 : Method := { name := "length", desc := "([B)I", sig := { parameters := [(.array .byte)], returnType := some .int }, accessFlags := 9, code := some k9c5 }
def k9c6 : Code := { maxStack := 4, maxLocals := 5, code := jdk_52_method_14_code, exceptionTable := #[], attributes := #[] }
def k9m6 : Method := { name := "toBytes", desc := "([CII)[B", sig := { parameters := [(.array .char), .int, .int], returnType := some (.array .byte) }, accessFlags := 9, code := some k9c6 }
def k9c7 : Code := { maxStack := 2, maxLocals := 2, code := jdk_52_method_15_code, exceptionTable := #[], attributes := #[] }
def k9m7 : Method := { name := "coderFromArrayLen", desc := "([BI)B", sig := { parameters := [(.array .byte), .int], returnType := some .byte }, accessFlags := 8, code := some k9c7 }
def k9c8 : Code := { maxStack := 5, maxLocals := 6, code := jdk_52_method_16_code, exceptionTable := #[], attributes := #[] }
def k9m8 : Method := { name := "compress", desc := "([CII)[B", sig := { parameters := [(.array .char), .int, .int], returnType := some (.array .byte) }, accessFlags := 9, code := some k9c8 }
def k9c9 : Code := { maxStack := 3, maxLocals := 7, code := jdk_52_method_21_code, exceptionTable := #[], attributes := #[] }
def k9m9 : Method := { name := "compress", desc := "([CI[BII)I", sig := { parameters := [(.array .char), .int, (.array .byte), .int, .int], returnType := some .int }, accessFlags := 9, code := some k9c9 }
def k9c10 : Code := { maxStack := 2, maxLocals := 2, code := jdk_52_method_83_code, exceptionTable := #[], attributes := #[] }
def k9m10 : Method := { name := "charAt", desc := "([BI)C", sig := { parameters := [(.array .byte), .int], returnType := some .char }, accessFlags := 9, code := some k9c10 }
def k9c11 : Code := { maxStack := 2, maxLocals := 2, code := jdk_52_method_91_code, exceptionTable := #[], attributes := #[] }
def k9m11 : Method := { name := "checkIndex", desc := "(I[B)V", sig := { parameters := [.int, (.array .byte)], returnType := none }, accessFlags := 9, code := some k9c11 }
/-- java/lang/StringUTF16 -/
def k9 : Class := { plain "java/lang/StringUTF16" (some 0) with
  accessFlags := 48
  interfaces := #[]
  cf := some (fileOf pool9 12 #[.nestMembers #[627, 629, 369]] #[{ accessFlags := 0, nameIndex := 9, descriptorIndex := 10, attributes := #[] }, { accessFlags := 9, nameIndex := 109, descriptorIndex := 110, attributes := #[] }, { accessFlags := 9, nameIndex := 15, descriptorIndex := 16, attributes := #[] }, { accessFlags := 8, nameIndex := 113, descriptorIndex := 114, attributes := #[] }, { accessFlags := 8, nameIndex := 73, descriptorIndex := 74, attributes := #[] }, { accessFlags := 9, nameIndex := 50, descriptorIndex := 51, attributes := #[] }, { accessFlags := 9, nameIndex := 121, descriptorIndex := 122, attributes := #[] }, { accessFlags := 8, nameIndex := 261, descriptorIndex := 262, attributes := #[] }, { accessFlags := 9, nameIndex := 117, descriptorIndex := 122, attributes := #[] }, { accessFlags := 9, nameIndex := 117, descriptorIndex := 118, attributes := #[] }, { accessFlags := 9, nameIndex := 392, descriptorIndex := 74, attributes := #[] }, { accessFlags := 9, nameIndex := 69, descriptorIndex := 70, attributes := #[] }] 48 6 #[] #[{ accessFlags := 26, nameIndex := 61, descriptorIndex := 62, attributes := #[] }, { accessFlags := 26, nameIndex := 65, descriptorIndex := 62, attributes := #[] }, { accessFlags := 24, nameIndex := 430, descriptorIndex := 62, attributes := #[] }, { accessFlags := 4120, nameIndex := 46, descriptorIndex := 47, attributes := #[] }])
  fields := #[{ name := "HI_BYTE_SHIFT", type := .int, accessFlags := 26, slot := 0, constantValue := 0 }, { name := "LO_BYTE_SHIFT", type := .int, accessFlags := 26, slot := 1, constantValue := 0 }, { name := "MAX_LENGTH", type := .int, accessFlags := 24, slot := 2, constantValue := 0 }, { name := "$assertionsDisabled", type := .boolean, accessFlags := 4120, slot := 3, constantValue := 0 }]
  methods := #[k9m0, k9m1, k9m2, k9m3, k9m4, k9m5, k9m6, k9m7, k9m8, k9m9, k9m10, k9m11]
  instanceTypes := #[]
  staticTypes := #[.int, .int, .int, .boolean]
  resolved := Array.replicate 635 none
  statics := some 1 }

def pool10 : Array CpInfo := pool [(1, .class_ 2), (0, u "java/lang/String"), (1, .class_ 6), (1, u "java/lang/Object"), (0, u "<init>"), (0, u "()V"), (0, .methodref 1 10), (0, .nameAndType 11 12), (0, u "checkIndex"), (0, u "(II)V"), (1, .class_ 16), (1, u "java/lang/StringLatin1"), (36, u "([BI)C"), (67, u "$assertionsDisabled"), (0, u "Z"), (98, .class_ 223), (1, u "java/lang/StringLatin1$LinesSpliterator"), (28, u "charAt"), (137, .class_ 391), (0, u "java/lang/StringLatin1$CharsSpliterator")] 3

def k10m0 : Method := { name := "<init>", desc := "()V", sig := { parameters := [], returnType := none }, accessFlags := 0, code := none }
def k10c1 : Code := { maxStack := 2, maxLocals := 2, code := jdk_43_method_2_code, exceptionTable := #[], attributes := #[] }
def k10m1 : Method := { name := "charAt", desc := "([BI)C", sig := { parameters := [(.array .byte), .int], returnType := some .char }, accessFlags := 9, code := some k10c1 }
/-- java/lang/StringLatin1 -/
def k10 : Class := { plain "java/lang/StringLatin1" (some 0) with
  accessFlags := 48
  interfaces := #[]
  cf := some (fileOf pool10 14 #[.nestMembers #[390, 221]] #[{ accessFlags := 0, nameIndex := 7, descriptorIndex := 8, attributes := #[] }, { accessFlags := 9, nameIndex := 252, descriptorIndex := 53, attributes := #[] }] 48 4 #[] #[{ accessFlags := 4120, nameIndex := 121, descriptorIndex := 122, attributes := #[] }])
  fields := #[{ name := "$assertionsDisabled", type := .boolean, accessFlags := 4120, slot := 0, constantValue := 0 }]
  methods := #[k10m0, k10m1]
  instanceTypes := #[]
  staticTypes := #[.boolean]
  resolved := Array.replicate 395 none
  statics := none }

def pool11 : Array CpInfo := pool [(2, .class_ 4), (1, u "java/lang/Object"), (0, u "<init>"), (0, u "()V"), (17, .class_ 26), (1, u "jdk/internal/util/Preconditions"), (6, u "checkIndex"), (21, .class_ 56), (0, u "jdk/internal/util/Preconditions$4"), (57, .class_ 115), (0, u "jdk/internal/util/Preconditions$1"), (7, u "SIOOBE_FORMATTER"), (0, u "Ljava/util/function/BiFunction;"), (0, .class_ 126), (0, u "jdk/internal/util/Preconditions$2"), (3, u "AIOOBE_FORMATTER"), (0, .class_ 132), (0, u "jdk/internal/util/Preconditions$3"), (3, u "IOOBE_FORMATTER"), (41, u "(IILjava/util/function/BiFunction;)I")] 15

def k11m0 : Method := { name := "<init>", desc := "()V", sig := { parameters := [], returnType := none }, accessFlags := 1, code := none }
def k11c1 : Code := { maxStack := 3, maxLocals := 3, code := jdk_41_method_11_code, exceptionTable := #[], attributes := #[] }
def k11m1 : Method := { name := "checkIndex", desc := "(IILjava/util/function/BiFunction;)I", sig := { parameters := [.int, .int, (.object "java/util/function/BiFunction")], returnType := some .int }, accessFlags := 9, code := some k11c1 }
/-- jdk/internal/util/Preconditions -/
def k11 : Class := { plain "jdk/internal/util/Preconditions" (some 0) with
  accessFlags := 33
  interfaces := #[]
  cf := some (fileOf pool11 24 #[.nestMembers #[55, 131, 125, 114]] #[{ accessFlags := 1, nameIndex := 5, descriptorIndex := 6, attributes := #[] }, { accessFlags := 9, nameIndex := 33, descriptorIndex := 178, attributes := #[] }] 33 2 #[] #[{ accessFlags := 25, nameIndex := 123, descriptorIndex := 124, attributes := #[] }, { accessFlags := 25, nameIndex := 130, descriptorIndex := 124, attributes := #[] }, { accessFlags := 25, nameIndex := 136, descriptorIndex := 124, attributes := #[] }])
  fields := #[{ name := "SIOOBE_FORMATTER", type := (.object "java/util/function/BiFunction"), accessFlags := 25, slot := 0, constantValue := 0 }, { name := "AIOOBE_FORMATTER", type := (.object "java/util/function/BiFunction"), accessFlags := 25, slot := 1, constantValue := 0 }, { name := "IOOBE_FORMATTER", type := (.object "java/util/function/BiFunction"), accessFlags := 25, slot := 2, constantValue := 0 }]
  methods := #[k11m0, k11m1]
  instanceTypes := #[]
  staticTypes := #[(.object "java/util/function/BiFunction"), (.object "java/util/function/BiFunction"), (.object "java/util/function/BiFunction")]
  resolved := Array.replicate 194 none
  statics := some 2 }

def pool12 : Array CpInfo := pool [(9, u "<init>"), (6, .class_ 18), (1, u "java/lang/Object"), (0, u "()V"), (1, .class_ 23), (1, u "jdk/internal/util/ArraysSupport"), (0, u "LOG2_ARRAY_LONG_INDEX_SCALE"), (0, u "I"), (2, u "U"), (0, u "Ljdk/internal/misc/Unsafe;"), (8, u "BIG_ENDIAN"), (0, u "Z"), (8, u "LOG2_BYTE_BIT_SIZE"), (4, u "LOG2_ARRAY_INT_INDEX_SCALE"), (54, u "JLA"), (0, u "Ljdk/internal/access/JavaLangAccess;"), (11, u "LOG2_ARRAY_BOOLEAN_INDEX_SCALE"), (9, u "LOG2_ARRAY_BYTE_INDEX_SCALE"), (5, u "LOG2_ARRAY_CHAR_INDEX_SCALE"), (5, u "LOG2_ARRAY_SHORT_INDEX_SCALE"), (18, u "LOG2_ARRAY_FLOAT_INDEX_SCALE"), (24, u "LOG2_ARRAY_DOUBLE_INDEX_SCALE"), (89, u "T_BOOLEAN"), (2, u "T_CHAR"), (1, u "T_FLOAT"), (1, u "T_DOUBLE"), (1, u "T_BYTE"), (1, u "T_SHORT"), (1, u "T_INT"), (1, u "T_LONG"), (1, u "SOFT_MAX_ARRAY_LENGTH")] 83

def k12m0 : Method := { name := "<init>", desc := "()V", sig := { parameters := [], returnType := none }, accessFlags := 2, code := none }
/-- jdk/internal/util/ArraysSupport -/
def k12 : Class := { plain "jdk/internal/util/ArraysSupport" (some 0) with
  accessFlags := 33
  interfaces := #[]
  cf := some (fileOf pool12 21 #[] #[{ accessFlags := 2, nameIndex := 9, descriptorIndex := 19, attributes := #[] }] 33 16 #[] #[{ accessFlags := 24, nameIndex := 28, descriptorIndex := 29, attributes := #[] }, { accessFlags := 26, nameIndex := 38, descriptorIndex := 39, attributes := #[] }, { accessFlags := 25, nameIndex := 121, descriptorIndex := 25, attributes := #[] }, { accessFlags := 25, nameIndex := 131, descriptorIndex := 25, attributes := #[] }, { accessFlags := 25, nameIndex := 137, descriptorIndex := 25, attributes := #[] }, { accessFlags := 25, nameIndex := 143, descriptorIndex := 25, attributes := #[] }, { accessFlags := 25, nameIndex := 53, descriptorIndex := 25, attributes := #[] }, { accessFlags := 25, nameIndex := 24, descriptorIndex := 25, attributes := #[] }, { accessFlags := 25, nameIndex := 162, descriptorIndex := 25, attributes := #[] }, { accessFlags := 25, nameIndex := 187, descriptorIndex := 25, attributes := #[] }, { accessFlags := 26, nameIndex := 48, descriptorIndex := 25, attributes := #[] }, { accessFlags := 25, nameIndex := 277, descriptorIndex := 25, attributes := #[] }, { accessFlags := 25, nameIndex := 280, descriptorIndex := 25, attributes := #[] }, { accessFlags := 25, nameIndex := 282, descriptorIndex := 25, attributes := #[] }, { accessFlags := 25, nameIndex := 284, descriptorIndex := 25, attributes := #[] }, { accessFlags := 25, nameIndex := 286, descriptorIndex := 25, attributes := #[] }, { accessFlags := 25, nameIndex := 288, descriptorIndex := 25, attributes := #[] }, { accessFlags := 25, nameIndex := 290, descriptorIndex := 25, attributes := #[] }, { accessFlags := 25, nameIndex := 292, descriptorIndex := 25, attributes := #[] }, { accessFlags := 26, nameIndex := 108, descriptorIndex := 109, attributes := #[] }, { accessFlags := 25, nameIndex := 294, descriptorIndex := 25, attributes := #[] }])
  fields := #[{ name := "U", type := (.object "jdk/internal/misc/Unsafe"), accessFlags := 24, slot := 0, constantValue := 0 }, { name := "BIG_ENDIAN", type := .boolean, accessFlags := 26, slot := 1, constantValue := 0 }, { name := "LOG2_ARRAY_BOOLEAN_INDEX_SCALE", type := .int, accessFlags := 25, slot := 2, constantValue := 0 }, { name := "LOG2_ARRAY_BYTE_INDEX_SCALE", type := .int, accessFlags := 25, slot := 3, constantValue := 0 }, { name := "LOG2_ARRAY_CHAR_INDEX_SCALE", type := .int, accessFlags := 25, slot := 4, constantValue := 0 }, { name := "LOG2_ARRAY_SHORT_INDEX_SCALE", type := .int, accessFlags := 25, slot := 5, constantValue := 0 }, { name := "LOG2_ARRAY_INT_INDEX_SCALE", type := .int, accessFlags := 25, slot := 6, constantValue := 0 }, { name := "LOG2_ARRAY_LONG_INDEX_SCALE", type := .int, accessFlags := 25, slot := 7, constantValue := 0 }, { name := "LOG2_ARRAY_FLOAT_INDEX_SCALE", type := .int, accessFlags := 25, slot := 8, constantValue := 0 }, { name := "LOG2_ARRAY_DOUBLE_INDEX_SCALE", type := .int, accessFlags := 25, slot := 9, constantValue := 0 }, { name := "LOG2_BYTE_BIT_SIZE", type := .int, accessFlags := 26, slot := 10, constantValue := 0 }, { name := "T_BOOLEAN", type := .int, accessFlags := 25, slot := 11, constantValue := 0 }, { name := "T_CHAR", type := .int, accessFlags := 25, slot := 12, constantValue := 0 }, { name := "T_FLOAT", type := .int, accessFlags := 25, slot := 13, constantValue := 0 }, { name := "T_DOUBLE", type := .int, accessFlags := 25, slot := 14, constantValue := 0 }, { name := "T_BYTE", type := .int, accessFlags := 25, slot := 15, constantValue := 0 }, { name := "T_SHORT", type := .int, accessFlags := 25, slot := 16, constantValue := 0 }, { name := "T_INT", type := .int, accessFlags := 25, slot := 17, constantValue := 0 }, { name := "T_LONG", type := .int, accessFlags := 25, slot := 18, constantValue := 0 }, { name := "JLA", type := (.object "jdk/internal/access/JavaLangAccess"), accessFlags := 26, slot := 19, constantValue := 0 }, { name := "SOFT_MAX_ARRAY_LENGTH", type := .int, accessFlags := 25, slot := 20, constantValue := 0 }]
  methods := #[k12m0]
  instanceTypes := #[]
  staticTypes := #[(.object "jdk/internal/misc/Unsafe"), .boolean, .int, .int, .int, .int, .int, .int, .int, .int, .int, .int, .int, .int, .int, .int, .int, .int, .int, (.object "jdk/internal/access/JavaLangAccess"), .int]
  resolved := Array.replicate 378 none
  statics := none }

def pool13 : Array CpInfo := pool [(1, u "java/lang/Cloneable"), (0, .class_ 1), (0, u "java/lang/Object"), (0, .class_ 3)] 3

/-- java/lang/Cloneable -/
def k13 : Class := { plain "java/lang/Cloneable" (some 0) with
  accessFlags := 1537
  interfaces := #[]
  cf := some (fileOf pool13 2 #[] #[] 1537 4 #[] #[])
  fields := #[]
  methods := #[]
  instanceTypes := #[]
  staticTypes := #[]
  resolved := Array.replicate 8 none
  statics := none }

/-- the primitive byte -/
def k14 : Class := { plain "byte" none with kind := .primitive 'B', accessFlags := 0x411 }
/-- [B -/
def k15 : Class := { plain "[B" (some 0) with kind := .array 14 .byte, interfaces := #[13, 2], accessFlags := 1041 }

/-- the primitive char -/
def k16 : Class := { plain "char" none with kind := .primitive 'C', accessFlags := 0x411 }
/-- [C -/
def k17 : Class := { plain "[C" (some 0) with kind := .array 16 .char, interfaces := #[13, 2], accessFlags := 1041 }

/-- the primitive int -/
def k18 : Class := { plain "int" none with kind := .primitive 'I', accessFlags := 0x411 }
/-- [I -/
def k19 : Class := { plain "[I" (some 0) with kind := .array 18 .int, interfaces := #[13, 2], accessFlags := 1041 }

def heap : Heap := #[{ cls := 7, slots := #[.long 0, .int 1, .null, .int 0, .null, .int 0, .int 0], vm := .statics 7 },
  { cls := 9, slots := #[.int 0, .int 8, .int 0, .int 1], vm := .statics 9 },
  { cls := 11, slots := #[.null, .null, .null], vm := .statics 11 }]
def classes : Array Class := #[k0, k1, k2, k3, k4, k5, k6, k7, k8, k9, k10, k11, k12, k13, k14, k15, k16, k17, k18, k19]
def interned : List (Array UInt16 × Addr) := []
def slotsUsed : Nat := 14
def theMethod : MethodId := ⟨1, 1⟩
def args0 : Array Value := #[.int 5, .int 65, .int 97, .int 300, .int 7]
def aboutOver (below : List Frame) : State where
  vm := { classes := classes, interned := interned.toArray }
  heap := heap
  slotsUsed := slotsUsed
  threads := #[{ frames := .invoking theMethod args0 :: below }]
def below0 : List Frame := [.native { method := ⟨0, 0⟩, args := #[] }]
def about1 : State := aboutOver below0
def p0 : Program := .bare "" "" ""
def e0 : Env := launch0.env 0 0 0
theorem w_frames : about1.frames = Frame.invoking theMethod args0 :: below0 := rfl
set_option maxRecDepth 65536 in
theorem w_args : argsFit about1.vm theMethod args0 = true := by decide +kernel
set_option maxRecDepth 65536 in
theorem w_heap : heapFits about1 = true := by decide +kernel
set_option maxRecDepth 65536 in
theorem w_runnable : about1.curStatus? = some .runnable := by decide +kernel
set_option maxRecDepth 65536 in
theorem w_alone : about1.alone = true := by decide +kernel
set_option maxRecDepth 65536 in
theorem w_named : about1.methodNamed? x = some theMethod := by decide +kernel
set_option maxRecDepth 65536 in
theorem w_hears : about1.hears theMethod below0 = true := by decide +kernel
set_option maxRecDepth 65536 in
theorem w_ripe : about1.ripe theMethod args0 below0 = true := by decide +kernel
theorem w_running : about1.status = .running := rfl
set_option maxRecDepth 65536 in
theorem w_room : about1.hasRoom e0.platform room_1 = true :=
  launch0.hasRoom_least _ room_1 (by decide +kernel) (by decide +kernel) (by decide +kernel) (by decide +kernel) (by decide +kernel) (by decide +kernel)
theorem allAtoms_all (ts : List Jvm.Cond) (a : Array Jvm.Value) (st : Jvm.State) : (allAtoms ts).before a st = ts.all (fun c => c.before a st) := by
  induction ts with
  | nil => rfl
  | cons c t ih =>
    show (Jvm.Cond.and c (allAtoms t)).before a st = _
    rw [Jvm.Cond.before_and, ih, List.all_cons]
def words1 : List Jvm.Cond := Jvm.Cond.code x code maxLocals ret :: tables_1
/-- a 'code' word, met by the world's own term for the bytes: nothing is compared byte by byte -/
theorem code_word {y : MethodName} {bytes : ByteArray} {mx : Nat} {rt : Option FieldType} {a : Array Value} {s : State} {m : MethodId} {meth : Method} {c : Code} (h1 : s.methodNamed? y = some m) (h2 : s.vm.method? m = some meth) (h3 : meth.code = some c) (h4 : c.code = bytes)
    (h5 : (c.maxLocals == mx && c.exceptionTable.isEmpty && decide (c.maxStack ≤ mostOperands) && decide (meth.sig.returnType = rt) && !meth.locks && decide (parseMethodDescriptor y.desc = some meth.sig)) = true) : (Jvm.Cond.code y bytes mx rt).before a s = true := by
  simp only [Bool.and_eq_true, beq_iff_eq, Bool.not_eq_true', decide_eq_true_eq] at h5
  obtain ⟨⟨⟨⟨⟨g1, g2⟩, g3⟩, g4⟩, g5⟩, g6⟩ := h5
  simp [Cond.before, Cond.holds, Cond.value, h1, h2, h3, h4, g1, g2, g3, g4, g5, g6]
def isCode : Jvm.Cond → Bool
  | .code _ _ _ _ => true
  | _ => false
theorem all_split {L : List Jvm.Cond} {P : Jvm.Cond → Bool} (h1 : L.all (fun c => isCode c || P c) = true) (h2 : ∀ c ∈ L.filter isCode, P c = true) : L.all P = true := by
  refine List.all_eq_true.mpr fun c hc => ?_
  have h := List.all_eq_true.mp h1 c hc
  rcases Bool.eq_false_or_eq_true (isCode c) with hi | hi
  · exact h2 c (List.mem_filter.mpr ⟨hc, hi⟩)
  · simpa [hi] using h
set_option maxRecDepth 65536 in
theorem w_c0 : (Jvm.Cond.code x code maxLocals ret).before args0 about1 = true := code_word (m := ⟨1, 1⟩) (meth := k1m1) (c := k1c1) (by decide +kernel) rfl rfl rfl (by decide +kernel)
set_option maxRecDepth 65536 in
theorem w_c1 : (Jvm.Cond.code ({ cls := "com/example/twelfths/twelfths/input/PlainDecimalIsPlainPinLaw", name := "draw", desc := "(I)C" } : Jvm.MethodName) method_3_code (3 : Nat) (Option.some Jvm.ClassFile.FieldType.char)).before args0 about1 = true := code_word (m := ⟨1, 2⟩) (meth := k1m2) (c := k1c2) (by decide +kernel) rfl rfl rfl (by decide +kernel)
set_option maxRecDepth 65536 in
theorem w_c2 : (Jvm.Cond.code ({ cls := "java/lang/String", name := "<init>", desc := "([C)V" } : Jvm.MethodName) jdk_42_method_3_code (2 : Nat) (Option.none : Option Jvm.ClassFile.FieldType)).before args0 about1 = true := code_word (m := ⟨7, 1⟩) (meth := k7m1) (c := k7c1) (by decide +kernel) rfl rfl rfl (by decide +kernel)
set_option maxRecDepth 65536 in
theorem w_c3 : (Jvm.Cond.code ({ cls := "java/lang/String", name := "<init>", desc := "([CIILjava/lang/Void;)V" } : Jvm.MethodName) jdk_42_method_149_code (6 : Nat) (Option.none : Option Jvm.ClassFile.FieldType)).before args0 about1 = true := code_word (m := ⟨7, 4⟩) (meth := k7m4) (c := k7c4) (by decide +kernel) rfl rfl rfl (by decide +kernel)
set_option maxRecDepth 65536 in
theorem w_c4 : (Jvm.Cond.code ({ cls := "java/lang/Object", name := "<init>", desc := "()V" } : Jvm.MethodName) object_method_1_code (1 : Nat) (Option.none : Option Jvm.ClassFile.FieldType)).before args0 about1 = true := code_word (m := ⟨0, 0⟩) (meth := k0m0) (c := k0c0) (by decide +kernel) rfl rfl rfl (by decide +kernel)
set_option maxRecDepth 65536 in
theorem w_c5 : (Jvm.Cond.code ({ cls := "com/example/twelfths/twelfths/input/PlainDecimalIsPlainPinLaw", name := "dig", desc := "(CIII)I" } : Jvm.MethodName) method_6_code (4 : Nat) (Option.some Jvm.ClassFile.FieldType.int)).before args0 about1 = true := code_word (m := ⟨1, 5⟩) (meth := k1m5) (c := k1c5) (by decide +kernel) rfl rfl rfl (by decide +kernel)
set_option maxRecDepth 65536 in
theorem w_c6 : (Jvm.Cond.code ({ cls := "com/example/twelfths/twelfths/input/PlainDecimalIsPlainPinLaw", name := "in", desc := "(III)Z" } : Jvm.MethodName) method_4_code (3 : Nat) (Option.some Jvm.ClassFile.FieldType.boolean)).before args0 about1 = true := code_word (m := ⟨1, 3⟩) (meth := k1m3) (c := k1c3) (by decide +kernel) rfl rfl rfl (by decide +kernel)
set_option maxRecDepth 65536 in
theorem w_c7 : (Jvm.Cond.code ({ cls := "com/example/twelfths/twelfths/input/PlainDecimalIsPlainPinLaw", name := "pt", desc := "(CIII)I" } : Jvm.MethodName) method_7_code (4 : Nat) (Option.some Jvm.ClassFile.FieldType.int)).before args0 about1 = true := code_word (m := ⟨1, 6⟩) (meth := k1m6) (c := k1c6) (by decide +kernel) rfl rfl rfl (by decide +kernel)
set_option maxRecDepth 65536 in
theorem w_c8 : (Jvm.Cond.code ({ cls := "com/example/twelfths/twelfths/input/PlainDecimalIsPlainPinLaw", name := "other", desc := "(CIII)I" } : Jvm.MethodName) method_8_code (4 : Nat) (Option.some Jvm.ClassFile.FieldType.int)).before args0 about1 = true := code_word (m := ⟨1, 7⟩) (meth := k1m7) (c := k1c7) (by decide +kernel) rfl rfl rfl (by decide +kernel)
set_option maxRecDepth 65536 in
theorem w_c9 : (Jvm.Cond.code ({ cls := "com/example/twelfths/twelfths/input/PlainDecimal", name := "isPlain", desc := "(Ljava/lang/CharSequence;)Z" } : Jvm.MethodName) prog_29_method_2_code (6 : Nat) (Option.some Jvm.ClassFile.FieldType.boolean)).before args0 about1 = true := code_word (m := ⟨8, 1⟩) (meth := k8m1) (c := k8c1) (by decide +kernel) rfl rfl rfl (by decide +kernel)
set_option maxRecDepth 65536 in
theorem w_c10 : (Jvm.Cond.code ({ cls := "java/lang/String", name := "length", desc := "()I" } : Jvm.MethodName) jdk_42_method_54_code (1 : Nat) (Option.some Jvm.ClassFile.FieldType.int)).before args0 about1 = true := code_word (m := ⟨7, 2⟩) (meth := k7m2) (c := k7c2) (by decide +kernel) rfl rfl rfl (by decide +kernel)
set_option maxRecDepth 65536 in
theorem w_c11 : (Jvm.Cond.code ({ cls := "java/lang/String", name := "coder", desc := "()B" } : Jvm.MethodName) jdk_42_method_152_code (1 : Nat) (Option.some Jvm.ClassFile.FieldType.byte)).before args0 about1 = true := code_word (m := ⟨7, 5⟩) (meth := k7m5) (c := k7c5) (by decide +kernel) rfl rfl rfl (by decide +kernel)
set_option maxRecDepth 65536 in
theorem w_c12 : (Jvm.Cond.code ({ cls := "java/lang/StringUTF16", name := "compress", desc := "([CII)[B" } : Jvm.MethodName) jdk_52_method_16_code (6 : Nat) (Option.some (Jvm.ClassFile.FieldType.array Jvm.ClassFile.FieldType.byte))).before args0 about1 = true := code_word (m := ⟨9, 8⟩) (meth := k9m8) (c := k9c8) (by decide +kernel) rfl rfl rfl (by decide +kernel)
set_option maxRecDepth 65536 in
theorem w_c13 : (Jvm.Cond.code ({ cls := "java/lang/StringUTF16", name := "compress", desc := "([CI[BII)I" } : Jvm.MethodName) jdk_52_method_21_code (7 : Nat) (Option.some Jvm.ClassFile.FieldType.int)).before args0 about1 = true := code_word (m := ⟨9, 9⟩) (meth := k9m9) (c := k9c9) (by decide +kernel) rfl rfl rfl (by decide +kernel)
set_option maxRecDepth 65536 in
theorem w_c14 : (Jvm.Cond.code ({ cls := "java/lang/StringUTF16", name := "coderFromArrayLen", desc := "([BI)B" } : Jvm.MethodName) jdk_52_method_15_code (2 : Nat) (Option.some Jvm.ClassFile.FieldType.byte)).before args0 about1 = true := code_word (m := ⟨9, 7⟩) (meth := k9m7) (c := k9c7) (by decide +kernel) rfl rfl rfl (by decide +kernel)
set_option maxRecDepth 65536 in
theorem w_c15 : (Jvm.Cond.code ({ cls := "com/example/twelfths/twelfths/input/PlainDecimalIsPlainPinLaw", name := "isDigit", desc := "(C)Z" } : Jvm.MethodName) method_5_code (1 : Nat) (Option.some Jvm.ClassFile.FieldType.boolean)).before args0 about1 = true := code_word (m := ⟨1, 4⟩) (meth := k1m4) (c := k1c4) (by decide +kernel) rfl rfl rfl (by decide +kernel)
set_option maxRecDepth 65536 in
theorem w_c16 : (Jvm.Cond.code ({ cls := "java/lang/String", name := "charAt", desc := "(I)C" } : Jvm.MethodName) jdk_42_method_56_code (2 : Nat) (Option.some Jvm.ClassFile.FieldType.char)).before args0 about1 = true := code_word (m := ⟨7, 3⟩) (meth := k7m3) (c := k7c3) (by decide +kernel) rfl rfl rfl (by decide +kernel)
set_option maxRecDepth 65536 in
theorem w_c17 : (Jvm.Cond.code ({ cls := "java/lang/String", name := "isLatin1", desc := "()Z" } : Jvm.MethodName) jdk_42_method_154_code (1 : Nat) (Option.some Jvm.ClassFile.FieldType.boolean)).before args0 about1 = true := code_word (m := ⟨7, 6⟩) (meth := k7m6) (c := k7c6) (by decide +kernel) rfl rfl rfl (by decide +kernel)
set_option maxRecDepth 65536 in
theorem w_c18 : (Jvm.Cond.code ({ cls := "java/lang/StringLatin1", name := "charAt", desc := "([BI)C" } : Jvm.MethodName) jdk_43_method_2_code (2 : Nat) (Option.some Jvm.ClassFile.FieldType.char)).before args0 about1 = true := code_word (m := ⟨10, 1⟩) (meth := k10m1) (c := k10c1) (by decide +kernel) rfl rfl rfl (by decide +kernel)
set_option maxRecDepth 65536 in
theorem w_c19 : (Jvm.Cond.code ({ cls := "java/lang/String", name := "checkIndex", desc := "(II)V" } : Jvm.MethodName) jdk_42_method_155_code (2 : Nat) (Option.none : Option Jvm.ClassFile.FieldType)).before args0 about1 = true := code_word (m := ⟨7, 7⟩) (meth := k7m7) (c := k7c7) (by decide +kernel) rfl rfl rfl (by decide +kernel)
set_option maxRecDepth 65536 in
theorem w_c20 : (Jvm.Cond.code ({ cls := "jdk/internal/util/Preconditions", name := "checkIndex", desc := "(IILjava/util/function/BiFunction;)I" } : Jvm.MethodName) jdk_41_method_11_code (3 : Nat) (Option.some Jvm.ClassFile.FieldType.int)).before args0 about1 = true := code_word (m := ⟨11, 1⟩) (meth := k11m1) (c := k11c1) (by decide +kernel) rfl rfl rfl (by decide +kernel)
set_option maxRecDepth 65536 in
theorem w_c21 : (Jvm.Cond.code ({ cls := "java/lang/StringUTF16", name := "toBytes", desc := "([CII)[B" } : Jvm.MethodName) jdk_52_method_14_code (5 : Nat) (Option.some (Jvm.ClassFile.FieldType.array Jvm.ClassFile.FieldType.byte))).before args0 about1 = true := code_word (m := ⟨9, 6⟩) (meth := k9m6) (c := k9c6) (by decide +kernel) rfl rfl rfl (by decide +kernel)
set_option maxRecDepth 65536 in
theorem w_c22 : (Jvm.Cond.code ({ cls := "java/lang/StringUTF16", name := "newBytesFor", desc := "(I)[B" } : Jvm.MethodName) jdk_52_method_2_code (1 : Nat) (Option.some (Jvm.ClassFile.FieldType.array Jvm.ClassFile.FieldType.byte))).before args0 about1 = true := code_word (m := ⟨9, 1⟩) (meth := k9m1) (c := k9c1) (by decide +kernel) rfl rfl rfl (by decide +kernel)
set_option maxRecDepth 65536 in
theorem w_c23 : (Jvm.Cond.code ({ cls := "java/lang/StringUTF16", name := "newBytesLength", desc := "(I)I" } : Jvm.MethodName) jdk_52_method_3_code (1 : Nat) (Option.some Jvm.ClassFile.FieldType.int)).before args0 about1 = true := code_word (m := ⟨9, 2⟩) (meth := k9m2) (c := k9c2) (by decide +kernel) rfl rfl rfl (by decide +kernel)
set_option maxRecDepth 65536 in
theorem w_c24 : (Jvm.Cond.code ({ cls := "java/lang/StringUTF16", name := "putChar", desc := "([BII)V" } : Jvm.MethodName) jdk_52_method_4_code (3 : Nat) (Option.none : Option Jvm.ClassFile.FieldType)).before args0 about1 = true := code_word (m := ⟨9, 3⟩) (meth := k9m3) (c := k9c3) (by decide +kernel) rfl rfl rfl (by decide +kernel)
set_option maxRecDepth 65536 in
theorem w_c25 : (Jvm.Cond.code ({ cls := "java/lang/StringUTF16", name := "getChar", desc := "([BI)C" } : Jvm.MethodName) jdk_52_method_5_code (2 : Nat) (Option.some Jvm.ClassFile.FieldType.char)).before args0 about1 = true := code_word (m := ⟨9, 4⟩) (meth := k9m4) (c := k9c4) (by decide +kernel) rfl rfl rfl (by decide +kernel)
set_option maxRecDepth 65536 in
theorem w_c26 : (Jvm.Cond.code ({ cls := "java/lang/StringUTF16", name := "charAt", desc := "([BI)C" } : Jvm.MethodName) jdk_52_method_83_code (2 : Nat) (Option.some Jvm.ClassFile.FieldType.char)).before args0 about1 = true := code_word (m := ⟨9, 10⟩) (meth := k9m10) (c := k9c10) (by decide +kernel) rfl rfl rfl (by decide +kernel)
set_option maxRecDepth 65536 in
theorem w_c27 : (Jvm.Cond.code ({ cls := "java/lang/StringUTF16", name := "checkIndex", desc := "(I[B)V" } : Jvm.MethodName) jdk_52_method_91_code (2 : Nat) (Option.none : Option Jvm.ClassFile.FieldType)).before args0 about1 = true := code_word (m := ⟨9, 11⟩) (meth := k9m11) (c := k9c11) (by decide +kernel) rfl rfl rfl (by decide +kernel)
set_option maxRecDepth 65536 in
theorem w_c28 : (Jvm.Cond.code ({ cls := "java/lang/StringUTF16", name := "length", desc := "([B)I" } : Jvm.MethodName) jdk_52_method_6_code (1 : Nat) (Option.some Jvm.ClassFile.FieldType.int)).before args0 about1 = true := code_word (m := ⟨9, 5⟩) (meth := k9m5) (c := k9c5) (by decide +kernel) rfl rfl rfl (by decide +kernel)
def codes1 : List Jvm.Cond := [Jvm.Cond.code x code maxLocals ret, Jvm.Cond.code ({ cls := "com/example/twelfths/twelfths/input/PlainDecimalIsPlainPinLaw", name := "draw", desc := "(I)C" } : Jvm.MethodName) method_3_code (3 : Nat) (Option.some Jvm.ClassFile.FieldType.char), Jvm.Cond.code ({ cls := "java/lang/String", name := "<init>", desc := "([C)V" } : Jvm.MethodName) jdk_42_method_3_code (2 : Nat) (Option.none : Option Jvm.ClassFile.FieldType), Jvm.Cond.code ({ cls := "java/lang/String", name := "<init>", desc := "([CIILjava/lang/Void;)V" } : Jvm.MethodName) jdk_42_method_149_code (6 : Nat) (Option.none : Option Jvm.ClassFile.FieldType), Jvm.Cond.code ({ cls := "java/lang/Object", name := "<init>", desc := "()V" } : Jvm.MethodName) object_method_1_code (1 : Nat) (Option.none : Option Jvm.ClassFile.FieldType), Jvm.Cond.code ({ cls := "com/example/twelfths/twelfths/input/PlainDecimalIsPlainPinLaw", name := "dig", desc := "(CIII)I" } : Jvm.MethodName) method_6_code (4 : Nat) (Option.some Jvm.ClassFile.FieldType.int), Jvm.Cond.code ({ cls := "com/example/twelfths/twelfths/input/PlainDecimalIsPlainPinLaw", name := "in", desc := "(III)Z" } : Jvm.MethodName) method_4_code (3 : Nat) (Option.some Jvm.ClassFile.FieldType.boolean), Jvm.Cond.code ({ cls := "com/example/twelfths/twelfths/input/PlainDecimalIsPlainPinLaw", name := "pt", desc := "(CIII)I" } : Jvm.MethodName) method_7_code (4 : Nat) (Option.some Jvm.ClassFile.FieldType.int), Jvm.Cond.code ({ cls := "com/example/twelfths/twelfths/input/PlainDecimalIsPlainPinLaw", name := "other", desc := "(CIII)I" } : Jvm.MethodName) method_8_code (4 : Nat) (Option.some Jvm.ClassFile.FieldType.int), Jvm.Cond.code ({ cls := "com/example/twelfths/twelfths/input/PlainDecimal", name := "isPlain", desc := "(Ljava/lang/CharSequence;)Z" } : Jvm.MethodName) prog_29_method_2_code (6 : Nat) (Option.some Jvm.ClassFile.FieldType.boolean), Jvm.Cond.code ({ cls := "java/lang/String", name := "length", desc := "()I" } : Jvm.MethodName) jdk_42_method_54_code (1 : Nat) (Option.some Jvm.ClassFile.FieldType.int), Jvm.Cond.code ({ cls := "java/lang/String", name := "coder", desc := "()B" } : Jvm.MethodName) jdk_42_method_152_code (1 : Nat) (Option.some Jvm.ClassFile.FieldType.byte), Jvm.Cond.code ({ cls := "java/lang/StringUTF16", name := "compress", desc := "([CII)[B" } : Jvm.MethodName) jdk_52_method_16_code (6 : Nat) (Option.some (Jvm.ClassFile.FieldType.array Jvm.ClassFile.FieldType.byte)), Jvm.Cond.code ({ cls := "java/lang/StringUTF16", name := "compress", desc := "([CI[BII)I" } : Jvm.MethodName) jdk_52_method_21_code (7 : Nat) (Option.some Jvm.ClassFile.FieldType.int), Jvm.Cond.code ({ cls := "java/lang/StringUTF16", name := "coderFromArrayLen", desc := "([BI)B" } : Jvm.MethodName) jdk_52_method_15_code (2 : Nat) (Option.some Jvm.ClassFile.FieldType.byte), Jvm.Cond.code ({ cls := "com/example/twelfths/twelfths/input/PlainDecimalIsPlainPinLaw", name := "isDigit", desc := "(C)Z" } : Jvm.MethodName) method_5_code (1 : Nat) (Option.some Jvm.ClassFile.FieldType.boolean), Jvm.Cond.code ({ cls := "java/lang/String", name := "charAt", desc := "(I)C" } : Jvm.MethodName) jdk_42_method_56_code (2 : Nat) (Option.some Jvm.ClassFile.FieldType.char), Jvm.Cond.code ({ cls := "java/lang/String", name := "isLatin1", desc := "()Z" } : Jvm.MethodName) jdk_42_method_154_code (1 : Nat) (Option.some Jvm.ClassFile.FieldType.boolean), Jvm.Cond.code ({ cls := "java/lang/StringLatin1", name := "charAt", desc := "([BI)C" } : Jvm.MethodName) jdk_43_method_2_code (2 : Nat) (Option.some Jvm.ClassFile.FieldType.char), Jvm.Cond.code ({ cls := "java/lang/String", name := "checkIndex", desc := "(II)V" } : Jvm.MethodName) jdk_42_method_155_code (2 : Nat) (Option.none : Option Jvm.ClassFile.FieldType), Jvm.Cond.code ({ cls := "jdk/internal/util/Preconditions", name := "checkIndex", desc := "(IILjava/util/function/BiFunction;)I" } : Jvm.MethodName) jdk_41_method_11_code (3 : Nat) (Option.some Jvm.ClassFile.FieldType.int), Jvm.Cond.code ({ cls := "java/lang/StringUTF16", name := "toBytes", desc := "([CII)[B" } : Jvm.MethodName) jdk_52_method_14_code (5 : Nat) (Option.some (Jvm.ClassFile.FieldType.array Jvm.ClassFile.FieldType.byte)), Jvm.Cond.code ({ cls := "java/lang/StringUTF16", name := "newBytesFor", desc := "(I)[B" } : Jvm.MethodName) jdk_52_method_2_code (1 : Nat) (Option.some (Jvm.ClassFile.FieldType.array Jvm.ClassFile.FieldType.byte)), Jvm.Cond.code ({ cls := "java/lang/StringUTF16", name := "newBytesLength", desc := "(I)I" } : Jvm.MethodName) jdk_52_method_3_code (1 : Nat) (Option.some Jvm.ClassFile.FieldType.int), Jvm.Cond.code ({ cls := "java/lang/StringUTF16", name := "putChar", desc := "([BII)V" } : Jvm.MethodName) jdk_52_method_4_code (3 : Nat) (Option.none : Option Jvm.ClassFile.FieldType), Jvm.Cond.code ({ cls := "java/lang/StringUTF16", name := "getChar", desc := "([BI)C" } : Jvm.MethodName) jdk_52_method_5_code (2 : Nat) (Option.some Jvm.ClassFile.FieldType.char), Jvm.Cond.code ({ cls := "java/lang/StringUTF16", name := "charAt", desc := "([BI)C" } : Jvm.MethodName) jdk_52_method_83_code (2 : Nat) (Option.some Jvm.ClassFile.FieldType.char), Jvm.Cond.code ({ cls := "java/lang/StringUTF16", name := "checkIndex", desc := "(I[B)V" } : Jvm.MethodName) jdk_52_method_91_code (2 : Nat) (Option.none : Option Jvm.ClassFile.FieldType), Jvm.Cond.code ({ cls := "java/lang/StringUTF16", name := "length", desc := "([B)I" } : Jvm.MethodName) jdk_52_method_6_code (1 : Nat) (Option.some Jvm.ClassFile.FieldType.int)]
set_option maxRecDepth 65536 in
theorem codes_eq : words1.filter isCode = codes1 := rfl
theorem w_codes : ∀ c ∈ words1.filter isCode, c.before args0 about1 = true := by
  rw [codes_eq]
  intro c hc
  simp only [codes1, List.mem_cons, List.not_mem_nil, or_false] at hc
  rcases hc with rfl | rfl | rfl | rfl | rfl | rfl | rfl | rfl | rfl | rfl | rfl | rfl | rfl | rfl | rfl | rfl | rfl | rfl | rfl | rfl | rfl | rfl | rfl | rfl | rfl | rfl | rfl | rfl | rfl
  · exact w_c0
  · exact w_c1
  · exact w_c2
  · exact w_c3
  · exact w_c4
  · exact w_c5
  · exact w_c6
  · exact w_c7
  · exact w_c8
  · exact w_c9
  · exact w_c10
  · exact w_c11
  · exact w_c12
  · exact w_c13
  · exact w_c14
  · exact w_c15
  · exact w_c16
  · exact w_c17
  · exact w_c18
  · exact w_c19
  · exact w_c20
  · exact w_c21
  · exact w_c22
  · exact w_c23
  · exact w_c24
  · exact w_c25
  · exact w_c26
  · exact w_c27
  · exact w_c28
set_option maxRecDepth 65536 in
theorem w_t1 : (words1.take 24).all (fun c => isCode c || c.before args0 about1) = true := by decide +kernel
set_option maxRecDepth 65536 in
theorem w_t2 : ((words1.drop 24).take 24).all (fun c => isCode c || c.before args0 about1) = true := by decide +kernel
set_option maxRecDepth 65536 in
theorem w_t3 : (((words1.drop 24).drop 24).take 24).all (fun c => isCode c || c.before args0 about1) = true := by decide +kernel
set_option maxRecDepth 65536 in
theorem w_t4 : ((((words1.drop 24).drop 24).drop 24).take 24).all (fun c => isCode c || c.before args0 about1) = true := by decide +kernel
set_option maxRecDepth 65536 in
theorem w_t5 : (((((words1.drop 24).drop 24).drop 24).drop 24).take 24).all (fun c => isCode c || c.before args0 about1) = true := by decide +kernel
set_option maxRecDepth 65536 in
theorem w_t6 : (((((words1.drop 24).drop 24).drop 24).drop 24).drop 24).all (fun c => isCode c || c.before args0 about1) = true := by decide +kernel
theorem w_tables : (allAtoms (Jvm.Cond.code x code maxLocals ret :: tables_1)).before args0 about1 = true := by
  rw [allAtoms_all]
  show words1.all (fun c => c.before args0 about1) = true
  refine all_split ?_ w_codes
  rw [← List.take_append_drop 24 words1, List.all_append, w_t1, ← List.take_append_drop 24 (words1.drop 24), List.all_append, w_t2, ← List.take_append_drop 24 ((words1.drop 24).drop 24), List.all_append, w_t3, ← List.take_append_drop 24 (((words1.drop 24).drop 24).drop 24), List.all_append, w_t4, ← List.take_append_drop 24 ((((words1.drop 24).drop 24).drop 24).drop 24), List.all_append, w_t5, w_t6]
  rfl
set_option maxRecDepth 65536 in
theorem w_rest : rest_1_c.before args0 about1 = true := by decide +kernel
set_option maxRecDepth 65536 in
theorem w_case : (Jvm.Cond.and given_1 narrow_1).before args0 about1 = true := by decide +kernel
set_option maxRecDepth 65536 in
theorem w_consts : constsHeld consts_1 about1 := Jvm.Lit.constsHeldB_iff.mp (by decide +kernel)
theorem w_applies : (headSpec (Jvm.Cond.code x code maxLocals ret :: tables_1) room_1).applies x e0.platform about1 = true :=
  (Spec.applies_iff w_frames).mpr ⟨w_running, w_runnable, w_alone, w_named, w_hears, w_ripe, w_room, w_tables⟩
theorem atStart : AtStart classFile x code maxLocals ret World_1 tables_1 room_1 Calls_1 rest_1 Pre_1 launch0 p0 e0 about1 theMethod args0 below0 :=
  ⟨lists_1, trivial, launch0.admits_env _ _ _, launch0.least_env, fairChoices_fair.cas, fairChoices_fair.clock, w_frames, w_args, w_heap, w_applies, ⟨w_consts, trivial⟩, w_rest, w_case⟩
end start1
theorem witness_1 : WitnessClaimed_1 := ⟨start1.p0, start1.e0, start1.about1, start1.theMethod, start1.args0, start1.below0, start1.atStart⟩
end Jvm.Pilot.@@N@@
