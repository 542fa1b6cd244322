import JvmDerived
import JvmDerived.Pilot.@@N@@Statement
import JvmDerived.Pilot.@@N@@Code
set_option linter.unusedVariables false
set_option linter.unusedSimpArgs false
/- laws to paste: Road.lenW, Road.codOf, lo8_inj, pair_says, chr8_lo8 (cut by pick.py; bodies as the Statement names them) -/
namespace Jvm.Pilot.@@N@@
namespace StrChars
open Jvm Sem ClassFile Op Lib Jvm.Stand Jvm.Free.XT Jvm.Free.ALB Jvm.Free.JM Jvm.Free
open Jvm.Lib.Cold (StaticIs)
/-- a char array whose places are chars -/
def Ch (a : Addr) (A : Cell) (U : State) : Prop := Arr .char a A U ∧ Typed .char A
theorem Ch.mv {a : Addr} {A : Cell} {U U' : State} (h : Ch a A U) (hal : U.vm.Alike U'.vm) (hh : U'.heap = U.heap) : Ch a A U' := ⟨h.1.mv hal hh, h.2⟩
theorem Ch.keep {a : Addr} {A : Cell} {U U' : State} (h : Ch a A U) (hal : U.vm.Alike U'.vm) (hk : U'.heap[a]? = some A) : Ch a A U' := ⟨h.1.keep hal hk, h.2⟩
/-- what place i of a char[]'s cell holds -/
def cv (A : Cell) (i : Nat) : Int32 := match A.slots[i]? with | some (.int x) => x | _ => 0
theorem Ch.get {a : Addr} {A : Cell} {U : State} (h : Ch a A U) {i : Nat} (hi : i < A.slots.size) : A.slots[i]? = some (.int (cv A i)) := by
  have e := Array.getElem?_eq_getElem hi
  have f := h.2 i _ e
  unfold cv; rw [e]
  generalize A.slots[i] = v at f
  cases v <;> simp [fits] at f ⊢
/-- the byte that i2b leaves of a char -/
def lo8 (x : Int32) : Int32 := x.toInt8.toInt32
theorem fits_lo8 (y : Int32) : fits .byte (.int (lo8 y)) = true := by
  have h1 := y.toInt8.le_toInt
  have h2 := y.toInt8.toInt_lt
  simp only [lo8, fits, Bool.and_eq_true, decide_eq_true_eq, Int32.le_iff_toInt_le, Int8.toInt_toInt32, show (-128 : Int32).toInt = -128 from by decide, show (127 : Int32).toInt = 127 from by decide]
  omega
/-- A' is A but that each place j of lo .. hi - 1 holds f j -/
def Laid (A A' : Cell) (lo hi : Nat) (f : Nat → Value) : Prop := A'.cls = A.cls ∧ A'.vm = A.vm ∧ A'.slots.size = A.slots.size ∧ ∀ i, A'.slots[i]? = if lo ≤ i ∧ i < hi then some (f i) else A.slots[i]?
theorem Laid.zero (A : Cell) (lo : Nat) (f : Nat → Value) : Laid A A lo (lo + 0) f := ⟨rfl, rfl, rfl, fun i => by rw [if_neg (by omega)]⟩
theorem Laid.step {A Ak : Cell} {lo k : Nat} {f : Nat → Value} {v : Value} (h : Laid A Ak lo k f) (hlo : lo ≤ k) (hk : k < Ak.slots.size) (hv : v = f k) : Laid A (Ak.setSlot k v) lo (k + 1) f := by
  refine ⟨h.1, h.2.1, by simpa [Cell.setSlot] using h.2.2.1, fun i => ?_⟩
  by_cases e : k = i
  · subst e; rw [Cell.slots_setSlot_self v hk, if_pos (by omega), hv]
  · rw [Cell.slots_setSlot_ne v e, h.2.2.2 i]
    by_cases q : lo ≤ i ∧ i < k
    · rw [if_pos q, if_pos (by omega)]
    · rw [if_neg q, if_neg (by omega)]
def U16 : String := "java/lang/StringUTF16"
namespace Cmp5
def yN : MethodName := ⟨"java/lang/StringUTF16", "compress", "([CI[BII)I"⟩
abbrev yB : ByteArray := jdk_52_method_21_code
theorem d0 : decode yB 0 = .ok (.iconst 0, 1) := by decide +kernel
theorem d1 : decode yB 1 = .ok (.istore 5, 2) := by decide +kernel
theorem d3 : decode yB 3 = .ok (.iload 5, 2) := by decide +kernel
theorem d5 : decode yB 5 = .ok (.iload 4, 2) := by decide +kernel
theorem d7 : decode yB 7 = .ok (.if_icmp (.ge) 37, 3) := by decide +kernel
theorem d10 : decode yB 10 = .ok (.aload_n 0, 1) := by decide +kernel
theorem d11 : decode yB 11 = .ok (.iload_n 1, 1) := by decide +kernel
theorem d12 : decode yB 12 = .ok (.caload, 1) := by decide +kernel
theorem d13 : decode yB 13 = .ok (.istore 6, 2) := by decide +kernel
theorem d15 : decode yB 15 = .ok (.iload 6, 2) := by decide +kernel
theorem d17 : decode yB 17 = .ok (.sipush 255, 3) := by decide +kernel
theorem d20 : decode yB 20 = .ok (.if_icmp (.le) 6, 3) := by decide +kernel
theorem d26 : decode yB 26 = .ok (.aload_n 2, 1) := by decide +kernel
theorem d27 : decode yB 27 = .ok (.iload_n 3, 1) := by decide +kernel
theorem d28 : decode yB 28 = .ok (.iload 6, 2) := by decide +kernel
theorem d30 : decode yB 30 = .ok (.i2b, 1) := by decide +kernel
theorem d31 : decode yB 31 = .ok (.bastore, 1) := by decide +kernel
theorem d32 : decode yB 32 = .ok (.iinc 1 1, 3) := by decide +kernel
theorem d35 : decode yB 35 = .ok (.iinc 3 1, 3) := by decide +kernel
theorem d38 : decode yB 38 = .ok (.iinc 5 1, 3) := by decide +kernel
theorem d41 : decode yB 41 = .ok (.goto (-38), 3) := by decide +kernel
theorem d44 : decode yB 44 = .ok (.iload 4, 2) := by decide +kernel
theorem d46 : decode yB 46 = .ok (.ireturn, 1) := by decide +kernel
def site : List Cond := []
def tab : Cond := tabOf yN yB 7 (some .int) site
def P (b : Addr) (A : Cell) (d : Addr) (B : Cell) (o q len : Nat) (args : Array Value) (s : State) : Prop := args = #[.ref b, .int (Int32.ofNat o), .ref d, .int (Int32.ofNat q), .int (Int32.ofNat len)] ∧ Ch b A s ∧ Arr .byte d B s ∧ b ≠ d ∧ o + len ≤ A.slots.size ∧ q + len ≤ B.slots.size ∧ ∀ i, i < len → ¬ 255 < cv A (o + i)
def E (b : Addr) (A : Cell) (d : Addr) (B : Cell) (o q len : Nat) (r : Option Value) (s u : State) : Prop := r = some (.int (Int32.ofNat len)) ∧ ∃ B', Put d B' s u ∧ Laid B B' q (q + len) (fun j => Value.int (lo8 (cv A (o + (j - q)))))
/-- no char of the range above 255: len; the places written hold each char's low byte -/
theorem law (l : Launch) (b : Addr) (A : Cell) (d : Addr) (B : Cell) (o q len : Nat) : Law l yN 5 5 0 0 yB 7 (some .int) site (P b A d B o q len) (E b A d B o q len) (copyLocs d q len) 0 0 := by
  refine Law.of_walk (plainFor_of_name (by decide +kernel)) (by decide +kernel) (by decide +kernel) (by decide) (fun _ _ h => by rw [h.1]; rfl) (fun _ U U' hal hh h => ⟨h.1, h.2.1.mv hal hh, h.2.2.1.mv hal hh, h.2.2.2⟩) (fun r U U' V V' h1 hal h2 h => ⟨h.1, h.2.elim fun B' q => ⟨B', q.1.mv h1 h2, q.2⟩⟩) ?_
  intro p e s m args below meth c s₁ X0 hexec hbytes hml hret hlk hnm hown hh0 W hP
  obtain ⟨rfl, hA, hB, hne, l1, l2, hp⟩ := hP
  have c1 : Steps p.tables e below (s₁.setTop (entryFrame m #[.ref b, .int (Int32.ofNat o), .ref d, .int (Int32.ofNat q), .int (Int32.ofNat len)] 7)) (s₁.setTop (mkF m 0 #[.val (.ref b), .val (.int (Int32.ofNat o)), .val (.ref d), .val (.int (Int32.ofNat q)), .val (.int (Int32.ofNat len)), .unset, .unset] [])) := entry rfl
  have hA0 := hA.1.mv X0.warmed.alike hh0
  have hB0 := hB.mv X0.warmed.alike hh0
  have a31 := hA.1.2.2.2
  have c2 : Steps p.tables e below (s₁.setTop (entryFrame m #[.ref b, .int (Int32.ofNat o), .ref d, .int (Int32.ofNat q), .int (Int32.ofNat len)] 7)) (s₁.setTop (mkF m 3 #[.val (.ref b), .val (.int (Int32.ofNat o)), .val (.ref d), .val (.int (Int32.ofNat q)), .val (.int (Int32.ofNat len)), .val (.int 0), .unset] [])) := c1.trans (by
    refine iconstV X0.here hexec rfl 0 (hb hbytes d0) (by decide) ?_
    refine XS.istore X0.here hexec rfl (hb hbytes d1) rfl rfl ?_
    exact Steps.refl _)
  have loop : ∀ (r i : Nat), i + r = len → ∀ (z : Slot), (z = .unset ∨ ∃ w, z = .val w ∧ w.category = 1) → ∀ (Tl : State) (Bk : Cell), Stand p l e { frames := 0, locals := 0, cells := 0, slots := 0 } s m #[.ref b, .int (Int32.ofNat o), .ref d, .int (Int32.ofNat q), .int (Int32.ofNat len)] below meth c Tl ([] ++ copyLocs d q i) 0 0 → Put d Bk s₁ Tl → Laid B Bk q (q + i) (fun j => Value.int (lo8 (cv A (o + (j - q))))) →
      Steps p.tables e below (s₁.setTop (entryFrame m #[.ref b, .int (Int32.ofNat o), .ref d, .int (Int32.ofNat q), .int (Int32.ofNat len)] 7)) (Tl.setTop (mkF m 3 #[.val (.ref b), .val (.int (Int32.ofNat (o + i))), .val (.ref d), .val (.int (Int32.ofNat (q + i))), .val (.int (Int32.ofNat len)), .val (.int (Int32.ofNat i)), z] [])) → ∃ (T' : State) (B' : Cell) (z' : Slot), Stand p l e { frames := 0, locals := 0, cells := 0, slots := 0 } s m #[.ref b, .int (Int32.ofNat o), .ref d, .int (Int32.ofNat q), .int (Int32.ofNat len)] below meth c T' ([] ++ copyLocs d q len) 0 0 ∧ Put d B' s₁ T' ∧ Laid B B' q (q + len) (fun j => Value.int (lo8 (cv A (o + (j - q))))) ∧
      Steps p.tables e below (s₁.setTop (entryFrame m #[.ref b, .int (Int32.ofNat o), .ref d, .int (Int32.ofNat q), .int (Int32.ofNat len)] 7)) (T'.setTop (mkF m 3 #[.val (.ref b), .val (.int (Int32.ofNat (o + len))), .val (.ref d), .val (.int (Int32.ofNat (q + len))), .val (.int (Int32.ofNat len)), .val (.int (Int32.ofNat len)), z'] [])) := by
    intro r
    induction r with
    | zero =>
      intro i hi z hz Tl Bk Xl pl fl cl
      have hil : i = len := by omega
      rw [hil] at Xl fl cl
      exact ⟨Tl, Bk, z, Xl, pl, fl, cl⟩
    | succ r ih =>
      intro i hi z hz Tl Bk Xl pl fl cl
      have all := X0.warmed.alike.symm.trans Xl.warmed.alike
      have hAl := hA0.keep all (pl.other hne hA0.1)
      have hBk := hB0.like all pl.1 fl.1 fl.2.1 fl.2.2.1
      have hlt : q + i < Bk.slots.size := by rw [fl.2.2.1]; omega
      have c3 : Steps p.tables e below (s₁.setTop (entryFrame m #[.ref b, .int (Int32.ofNat o), .ref d, .int (Int32.ofNat q), .int (Int32.ofNat len)] 7)) (Tl.setTop (mkF m 12 #[.val (.ref b), .val (.int (Int32.ofNat (o + i))), .val (.ref d), .val (.int (Int32.ofNat (q + i))), .val (.int (Int32.ofNat len)), .val (.int (Int32.ofNat i)), z] [.int (Int32.ofNat (o + i)), .ref b])) := cl.trans (by
        refine XS.iload Xl.here hexec rfl (hb hbytes d3) rfl ?_
        refine XS.iload Xl.here hexec rfl (hb hbytes d5) rfl ?_
        refine XS.icmpNo Xl.here hexec rfl (hb hbytes d7) rfl (ii_ge_f (lt32 (by omega) (by omega))) ?_
        refine XS.aloadN Xl.here hexec rfl (hb hbytes d10) rfl rfl ?_
        refine XS.iloadN Xl.here hexec rfl (hb hbytes d11) rfl ?_
        exact Steps.refl _)
      have c4 : Steps p.tables e below (s₁.setTop (entryFrame m #[.ref b, .int (Int32.ofNat o), .ref d, .int (Int32.ofNat q), .int (Int32.ofNat len)] 7)) (Tl.setTop (mkF m 13 #[.val (.ref b), .val (.int (Int32.ofNat (o + i))), .val (.ref d), .val (.int (Int32.ofNat (q + i))), .val (.int (Int32.ofNat len)), .val (.int (Int32.ofNat i)), z] [.int (cv A (o + i))])) := c3.trans (by
        refine Xl.aget hexec hAl rfl (hA.get (i := o + i) (by omega)) rfl rfl (hb hbytes d12) ?_
        exact Steps.refl _)
      have c5 : Steps p.tables e below (s₁.setTop (entryFrame m #[.ref b, .int (Int32.ofNat o), .ref d, .int (Int32.ofNat q), .int (Int32.ofNat len)] 7)) (Tl.setTop (mkF m 15 #[.val (.ref b), .val (.int (Int32.ofNat (o + i))), .val (.ref d), .val (.int (Int32.ofNat (q + i))), .val (.int (Int32.ofNat len)), .val (.int (Int32.ofNat i)), .val (.int (cv A (o + i)))] [])) := c4.trans (by
        refine XS.istoreS Xl.here hexec rfl (hb hbytes d13) rfl rfl hz ?_
        exact Steps.refl _)
      have c6 : Steps p.tables e below (s₁.setTop (entryFrame m #[.ref b, .int (Int32.ofNat o), .ref d, .int (Int32.ofNat q), .int (Int32.ofNat len)] 7)) (Tl.setTop (mkF m 31 #[.val (.ref b), .val (.int (Int32.ofNat (o + i))), .val (.ref d), .val (.int (Int32.ofNat (q + i))), .val (.int (Int32.ofNat len)), .val (.int (Int32.ofNat i)), .val (.int (cv A (o + i)))] [.int (lo8 (cv A (o + i))), .int (Int32.ofNat (q + i)), .ref d])) := c5.trans (by
        refine XS.iload Xl.here hexec rfl (hb hbytes d15) rfl ?_
        refine sipushV Xl.here hexec rfl 255 (hb hbytes d17) (by decide) ?_
        refine XS.icmpYes Xl.here hexec rfl (pc0 := 20) rfl (hb hbytes d20) rfl (ii_le_t (hp i (by omega))) (by decide) rfl ?_
        refine XS.aloadN Xl.here hexec rfl (hb hbytes d26) rfl rfl ?_
        refine XS.iloadN Xl.here hexec rfl (hb hbytes d27) rfl ?_
        refine XS.iload Xl.here hexec rfl (hb hbytes d28) rfl ?_
        refine i2b Xl.here hexec rfl (hb hbytes d30) rfl ?_
        exact Steps.refl _)
      obtain ⟨T7, X7, p7, st7⟩ := Xl.aput hexec hBk rfl hlt rfl (fits_lo8 (cv A (o + i))) (g := (mkF m 31 #[.val (.ref b), .val (.int (Int32.ofNat (o + i))), .val (.ref d), .val (.int (Int32.ofNat (q + i))), .val (.int (Int32.ofNat len)), .val (.int (Int32.ofNat i)), .val (.int (cv A (o + i)))] [.int (lo8 (cv A (o + i))), .int (Int32.ofNat (q + i)), .ref d])) rfl (rest := []) rfl (hb hbytes d31)
      have c8 : Steps p.tables e below (s₁.setTop (entryFrame m #[.ref b, .int (Int32.ofNat o), .ref d, .int (Int32.ofNat q), .int (Int32.ofNat len)] 7)) (T7.setTop (mkF m 32 #[.val (.ref b), .val (.int (Int32.ofNat (o + i))), .val (.ref d), .val (.int (Int32.ofNat (q + i))), .val (.int (Int32.ofNat len)), .val (.int (Int32.ofNat i)), .val (.int (cv A (o + i)))] [])) := c6.trans (st7 _ (Steps.refl _))
      have c9 : Steps p.tables e below (s₁.setTop (entryFrame m #[.ref b, .int (Int32.ofNat o), .ref d, .int (Int32.ofNat q), .int (Int32.ofNat len)] 7)) (T7.setTop (mkF m 3 #[.val (.ref b), .val (.int (Int32.ofNat (o + i) + 1)), .val (.ref d), .val (.int (Int32.ofNat (q + i) + 1)), .val (.int (Int32.ofNat len)), .val (.int (Int32.ofNat i + 1)), .val (.int (cv A (o + i)))] [])) := c8.trans (by
        refine iincV X7.here hexec rfl 1 (hb hbytes d32) (by decide) rfl rfl ?_
        refine iincV X7.here hexec rfl 1 (hb hbytes d35) (by decide) rfl rfl ?_
        refine iincV X7.here hexec rfl 1 (hb hbytes d38) (by decide) rfl rfl ?_
        refine XS.goto X7.here hexec rfl (pc0 := 41) rfl (hb hbytes d41) (by decide) rfl ?_
        exact Steps.refl _)
      have c10 : Steps p.tables e below (s₁.setTop (entryFrame m #[.ref b, .int (Int32.ofNat o), .ref d, .int (Int32.ofNat q), .int (Int32.ofNat len)] 7)) (T7.setTop (mkF m 3 #[.val (.ref b), .val (.int (Int32.ofNat (o + (i + 1)))), .val (.ref d), .val (.int (Int32.ofNat (q + (i + 1)))), .val (.int (Int32.ofNat len)), .val (.int (Int32.ofNat (i + 1))), .val (.int (cv A (o + i)))] [])) := by
        have := c9
        rw [succ32, succ32, succ32] at this
        exact this
      exact ih (i + 1) (by omega) _ (Or.inr ⟨_, rfl, rfl⟩) T7 _ (by rw [copyLocs_step, ← List.append_assoc]; exact X7) (pl.trans p7) (fl.step (by omega) hlt (by simp)) c10
  obtain ⟨T9, B9, z9, X9, p9, f9, g9⟩ := loop len 0 (by omega) .unset (Or.inl rfl) s₁ B (by simpa [copyLocs] using X0) ⟨hB0.1, fun _ _ => rfl, rfl⟩ (Laid.zero _ _ _) c2
  have c11 : Steps p.tables e below (s₁.setTop (entryFrame m #[.ref b, .int (Int32.ofNat o), .ref d, .int (Int32.ofNat q), .int (Int32.ofNat len)] 7)) (T9.setTop (mkF m 46 #[.val (.ref b), .val (.int (Int32.ofNat (o + len))), .val (.ref d), .val (.int (Int32.ofNat (q + len))), .val (.int (Int32.ofNat len)), .val (.int (Int32.ofNat len)), z9] [.int (Int32.ofNat len)])) := g9.trans (by
    refine XS.iload X9.here hexec rfl (hb hbytes d3) rfl ?_
    refine XS.iload X9.here hexec rfl (hb hbytes d5) rfl ?_
    refine XS.icmpYes X9.here hexec rfl (pc0 := 7) rfl (hb hbytes d7) rfl (ii_ge_t (nlt32 (by omega) (Nat.le_refl _))) (by decide) rfl ?_
    refine XS.iload X9.here hexec rfl (hb hbytes d44) rfl ?_
    exact Steps.refl _)
  exact ⟨T9, some (.int (Int32.ofNat len)), _, _, _, X9, by simp, rfl, rfl, (fun h => by cases h), ⟨rfl, B9, p9.from hh0, f9⟩, fun fs hl => c11.trans (X9.ireturnOut hexec hret rfl (Or.inl rfl) (hb hbytes d46) hl)⟩
end Cmp5
namespace Cmp3
def yN : MethodName := ⟨"java/lang/StringUTF16", "compress", "([CII)[B"⟩
abbrev yB : ByteArray := jdk_52_method_16_code
theorem d0 : decode yB 0 = .ok (.iload_n 2, 1) := by decide +kernel
theorem d1 : decode yB 1 = .ok (.newarray .byte, 2) := by decide +kernel
theorem d3 : decode yB 3 = .ok (.astore_n 3, 1) := by decide +kernel
theorem d4 : decode yB 4 = .ok (.aload_n 0, 1) := by decide +kernel
theorem d5 : decode yB 5 = .ok (.iload_n 1, 1) := by decide +kernel
theorem d6 : decode yB 6 = .ok (.aload_n 3, 1) := by decide +kernel
theorem d7 : decode yB 7 = .ok (.iconst 0, 1) := by decide +kernel
theorem d8 : decode yB 8 = .ok (.iload_n 2, 1) := by decide +kernel
theorem d9 : decode yB 9 = .ok (.invokestatic 115, 3) := by decide +kernel
theorem d12 : decode yB 12 = .ok (.istore 4, 2) := by decide +kernel
theorem d14 : decode yB 14 = .ok (.iload 4, 2) := by decide +kernel
theorem d16 : decode yB 16 = .ok (.iload_n 2, 1) := by decide +kernel
theorem d17 : decode yB 17 = .ok (.if_icmp (.eq) 40, 3) := by decide +kernel
theorem d57 : decode yB 57 = .ok (.aload_n 3, 1) := by decide +kernel
theorem d58 : decode yB 58 = .ok (.areturn, 1) := by decide +kernel
def site : List Cond := [.arrayClass .byte, Cmp5.tab] ++ staticW U16 115 Cmp5.yN
def tab : Cond := tabOf yN yB 6 (some (.array .byte)) site
def P (b : Addr) (A : Cell) (o len : Nat) (args : Array Value) (s : State) : Prop := args = #[.ref b, .int (Int32.ofNat o), .int (Int32.ofNat len)] ∧ Ch b A s ∧ o + len ≤ A.slots.size ∧ len ≤ 536870912 ∧ ∀ i, i < len → ¬ 255 < cv A (o + i)
def E (b : Addr) (A : Cell) (o len : Nat) (r : Option Value) (s u : State) : Prop := NewArr .byte "[B" len (fun j => .int (lo8 (cv A (o + j)))) r s u ∧ u.heap.size = s.heap.size + 1
/-- no char of the range above 255: a new byte[] of their low bytes -/
theorem law (l : Launch) (b : Addr) (A : Cell) (o len : Nat) : Law l yN 3 3 1 18 yB 6 (some (.array .byte)) site (P b A o len) (E b A o len) [] 1 len := by
  refine Law.of_walk (plainFor_of_name (by decide +kernel)) (by decide +kernel) (by decide +kernel) (by decide) (fun _ _ h => by rw [h.1]; rfl) (fun _ U U' hal hh h => ⟨h.1, h.2.1.mv hal hh, h.2.2⟩) (fun r U U' V V' h1 hal h2 h => ⟨NewArr.mv r U U' V V' h1 hal h2 h.1, by rw [h1, h2]; exact h.2⟩) ?_
  intro p e s m args below meth c s₁ X0 hexec hbytes hml hret hlk hnm hown hh0 W hP
  obtain ⟨rfl, hA, l1, l2, hp⟩ := hP
  have a31 := hA.1.2.2.2
  have c1 : Steps p.tables e below (s₁.setTop (entryFrame m #[.ref b, .int (Int32.ofNat o), .int (Int32.ofNat len)] 6)) (s₁.setTop (mkF m 0 #[.val (.ref b), .val (.int (Int32.ofNat o)), .val (.int (Int32.ofNat len)), .unset, .unset, .unset] [])) := entry rfl
  have c2 : Steps p.tables e below (s₁.setTop (entryFrame m #[.ref b, .int (Int32.ofNat o), .int (Int32.ofNat len)] 6)) (s₁.setTop (mkF m 1 #[.val (.ref b), .val (.int (Int32.ofNat o)), .val (.int (Int32.ofNat len)), .unset, .unset, .unset] [.int (Int32.ofNat len)])) := c1.trans (by
    refine XS.iloadN X0.here hexec rfl (hb hbytes d0) rfl ?_
    exact Steps.refl _)
  obtain ⟨T3, B3, X3, ba3, bs3, bv3, bh3, bf3, st3⟩ := X0.anew hexec (atype := .byte) (wk W (.arrayClass .byte)) rfl (by show len * 1 ≤ _; omega) (by omega) (g := (mkF m 1 #[.val (.ref b), .val (.int (Int32.ofNat o)), .val (.int (Int32.ofNat len)), .unset, .unset, .unset] [.int (Int32.ofNat len)])) rfl (hb hbytes d1) (rest := []) rfl (Nat.le_refl _) (by show 0 + len ≤ len; omega)
  rw [hh0] at ba3 st3
  have kp3 : XT.Kept s T3 := (XT.Kept.of_eq hh0).push bh3
  have hA3 := hA.keep X3.warmed.alike (kp3 _ _ hA.1.1)
  have hne : b ≠ s.heap.size := hA.1.ne
  have c4 : Steps p.tables e below (s₁.setTop (entryFrame m #[.ref b, .int (Int32.ofNat o), .int (Int32.ofNat len)] 6)) (T3.setTop (mkF m 3 #[.val (.ref b), .val (.int (Int32.ofNat o)), .val (.int (Int32.ofNat len)), .unset, .unset, .unset] [.ref s.heap.size])) := c2.trans (st3 _ (Steps.refl _))
  have c5 : Steps p.tables e below (s₁.setTop (entryFrame m #[.ref b, .int (Int32.ofNat o), .int (Int32.ofNat len)] 6)) (T3.setTop (mkF m 9 #[.val (.ref b), .val (.int (Int32.ofNat o)), .val (.int (Int32.ofNat len)), .val (.ref s.heap.size), .unset, .unset] [.int (Int32.ofNat len), .int 0, .ref s.heap.size, .int (Int32.ofNat o), .ref b])) := c4.trans (by
    refine XS.astoreN X3.here hexec rfl (hb hbytes d3) rfl rfl rfl ?_
    refine XS.aloadN X3.here hexec rfl (hb hbytes d4) rfl rfl ?_
    refine XS.iloadN X3.here hexec rfl (hb hbytes d5) rfl ?_
    refine XS.aloadN X3.here hexec rfl (hb hbytes d6) rfl rfl ?_
    refine iconstV X3.here hexec rfl 0 (hb hbytes d7) (by decide) ?_
    refine XS.iloadN X3.here hexec rfl (hb hbytes d8) rfl ?_
    exact Steps.refl _)
  obtain ⟨v6, T6, X6, E6, g6⟩ := X3.callS hexec (Cmp5.law l b A s.heap.size B3 o 0 len) hown (wks W (staticW U16 115 Cmp5.yN)) (wk W Cmp5.tab) (W := 0) (Nat.le_of_ble_eq_true rfl) (Nat.le_of_ble_eq_true rfl) (Nat.le_refl _) (by show 0 + len + 0 ≤ len; omega) (g := (mkF m 9 #[.val (.ref b), .val (.int (Int32.ofNat o)), .val (.int (Int32.ofNat len)), .val (.ref s.heap.size), .unset, .unset] [.int (Int32.ofNat len), .int (Int32.ofNat 0), .ref s.heap.size, .int (Int32.ofNat o), .ref b])) rfl (by rw [hml]; rfl) c5 (argsL := [.ref b, .int (Int32.ofNat o), .ref s.heap.size, .int (Int32.ofNat 0), .int (Int32.ofNat len)]) (rest := []) rfl rfl (by show 2 * 0 + 0 ≤ _; decide) (hb hbytes d9) (⟨rfl, hA3, ba3, hne, l1, by rw [bs3]; simp, hp⟩)
  obtain ⟨rfl, B6, p6, f6⟩ := E6
  have c7 : Steps p.tables e below (s₁.setTop (entryFrame m #[.ref b, .int (Int32.ofNat o), .int (Int32.ofNat len)] 6)) (T6.setTop (mkF m 12 #[.val (.ref b), .val (.int (Int32.ofNat o)), .val (.int (Int32.ofNat len)), .val (.ref s.heap.size), .unset, .unset] [.int (Int32.ofNat len)])) := g6
  have c8 : Steps p.tables e below (s₁.setTop (entryFrame m #[.ref b, .int (Int32.ofNat o), .int (Int32.ofNat len)] 6)) (T6.setTop (mkF m 58 #[.val (.ref b), .val (.int (Int32.ofNat o)), .val (.int (Int32.ofNat len)), .val (.ref s.heap.size), .val (.int (Int32.ofNat len)), .unset] [.ref s.heap.size])) := c7.trans (by
    refine XS.istore X6.here hexec rfl (hb hbytes d12) rfl rfl ?_
    refine XS.iload X6.here hexec rfl (hb hbytes d14) rfl ?_
    refine XS.iloadN X6.here hexec rfl (hb hbytes d16) rfl ?_
    refine XS.icmpYes X6.here hexec rfl (pc0 := 17) rfl (hb hbytes d17) rfl (ii_eq_t rfl) (by decide) rfl ?_
    refine XS.aloadN X6.here hexec rfl (hb hbytes d57) rfl rfl ?_
    exact Steps.refl _)
  have X8 := X6.wide (L' := []) (cells' := 1) (slots' := len) (fun x hx hlt => by
    simp only [List.nil_append, copyLocs, List.mem_map, List.mem_range] at hx
    obtain ⟨i, -, rfl⟩ := hx
    exact absurd hlt (Nat.lt_irrefl _)) (Nat.le_refl _) (by omega)
  exact ⟨T6, some (.ref s.heap.size), _, _, _, X8, rfl, rfl, rfl, (fun h => by cases h), ⟨⟨rfl, B6, ba3.like (X3.warmed.alike.symm.trans X6.warmed.alike) p6.1 f6.1 f6.2.1 f6.2.2.1, f6.2.1.trans bv3, by rw [X6.warmed.alike.findClass, f6.1]; exact bf3, by rw [f6.2.2.1, bs3]; simp, fun j hj => by rw [f6.2.2.2 j, if_pos (by omega)]; rfl, kp3.put p6 (Nat.le_refl _)⟩, by rw [p6.2.2, bh3, hh0]; simp⟩, fun fs hl => c8.trans (X8.areturnOut hexec rfl hret rfl (hb hbytes d58) hl)⟩
end Cmp3
namespace CodL
def yN : MethodName := ⟨"java/lang/StringUTF16", "coderFromArrayLen", "([BI)B"⟩
abbrev yB : ByteArray := jdk_52_method_15_code
theorem d0 : decode yB 0 = .ok (.iload_n 1, 1) := by decide +kernel
theorem d1 : decode yB 1 = .ok (.aload_n 0, 1) := by decide +kernel
theorem d2 : decode yB 2 = .ok (.arraylength, 1) := by decide +kernel
theorem d3 : decode yB 3 = .ok (.isub, 1) := by decide +kernel
theorem d4 : decode yB 4 = .ok (.bipush 31, 2) := by decide +kernel
theorem d6 : decode yB 6 = .ok (.iushr, 1) := by decide +kernel
theorem d7 : decode yB 7 = .ok (.i2b, 1) := by decide +kernel
theorem d8 : decode yB 8 = .ok (.ireturn, 1) := by decide +kernel
def site : List Cond := []
def tab : Cond := tabOf yN yB 2 (some .byte) site
def P (d : Addr) (B : Cell) (args : Array Value) (s : State) : Prop := args = #[.ref d, .int (Int32.ofNat B.slots.size)] ∧ Arr .byte d B s
def E (r : Option Value) (s u : State) : Prop := XT.PureE (some (.int 0)) r s u
/-- an array as long as the number of chars: LATIN1 -/
theorem law (l : Launch) (d : Addr) (B : Cell) : Law l yN 2 2 0 0 yB 2 (some .byte) site (P d B) E [] 0 0 := by
  refine Law.of_walk (plainFor_of_name (by decide +kernel)) (by decide +kernel) (by decide +kernel) (by decide) (fun _ _ h => by rw [h.1]; rfl) (fun _ U U' hal hh h => ⟨h.1, h.2.mv hal hh⟩) (fun r U U' V V' h1 hal h2 h => XT.PureE.mv r U U' V V' h1 hal h2 h) ?_
  intro p e s m args below meth c s₁ X0 hexec hbytes hml hret hlk hnm hown hh0 W hP
  obtain ⟨rfl, hB⟩ := hP
  have hB0 := hB.mv X0.warmed.alike hh0
  have c1 : Steps p.tables e below (s₁.setTop (entryFrame m #[.ref d, .int (Int32.ofNat B.slots.size)] 2)) (s₁.setTop (mkF m 0 #[.val (.ref d), .val (.int (Int32.ofNat B.slots.size))] [])) := entry rfl
  have c2 : Steps p.tables e below (s₁.setTop (entryFrame m #[.ref d, .int (Int32.ofNat B.slots.size)] 2)) (s₁.setTop (mkF m 2 #[.val (.ref d), .val (.int (Int32.ofNat B.slots.size))] [.ref d, .int (Int32.ofNat B.slots.size)])) := c1.trans (by
    refine XS.iloadN X0.here hexec rfl (hb hbytes d0) rfl ?_
    refine XS.aloadN X0.here hexec rfl (hb hbytes d1) rfl rfl ?_
    exact Steps.refl _)
  have c3 : Steps p.tables e below (s₁.setTop (entryFrame m #[.ref d, .int (Int32.ofNat B.slots.size)] 2)) (s₁.setTop (mkF m 8 #[.val (.ref d), .val (.int (Int32.ofNat B.slots.size))] [.int (lo8 (ushr (Int32.ofNat B.slots.size - Int32.ofNat B.slots.size) 31))])) := c2.trans (by
    refine X0.alen hexec hB0 rfl rfl (hb hbytes d2) ?_
    refine XS.isub X0.here hexec rfl (hb hbytes d3) rfl ?_
    refine bipushV X0.here hexec rfl 31 (hb hbytes d4) (by decide) ?_
    refine iushr X0.here hexec rfl (hb hbytes d6) rfl ?_
    refine i2b X0.here hexec rfl (hb hbytes d7) rfl ?_
    exact Steps.refl _)
  have e0 : lo8 (ushr (Int32.ofNat B.slots.size - Int32.ofNat B.slots.size) 31) = 0 := by rw [Int32.sub_self]; decide
  rw [e0] at c3
  exact ⟨s₁, some (.int 0), _, _, _, X0, rfl, rfl, rfl, (fun h => by cases h), ⟨rfl, hh0⟩, fun fs hl => c3.trans (X0.ireturnOut hexec hret rfl (Or.inr (Or.inr (Or.inl rfl))) (hb hbytes d8) hl)⟩
end CodL
/-- the String at a is Latin-1 over a new byte[] (the heap's one new cell): the low bytes of the len chars of A from o on; every cell but a is kept -/
def Got (a : Addr) (D : Cell) (fV fC : Field) (A : Cell) (o len : Nat) (r : Option Value) (s u : State) : Prop := r = none ∧ ∃ D' V : Cell, Blank "java/lang/String" a D' u ∧ Same D D' [fV.slot, fC.slot] ∧ D'.slots[fV.slot]? = some (.ref s.heap.size) ∧ D'.slots[fC.slot]? = some (.int 0) ∧ Arr .byte s.heap.size V u ∧ V.vm = .none ∧ u.vm.findClass "[B" = some V.cls ∧ V.slots.size = len ∧ (∀ j, j < len → V.slots[j]? = some (.int (lo8 (cv A (o + j))))) ∧ (∀ (y : Addr) (c : Cell), y ≠ a → s.heap[y]? = some c → u.heap[y]? = some c) ∧ u.heap.size = s.heap.size + 1
theorem Got.mv {a : Addr} {D A : Cell} {fV fC : Field} {o len : Nat} : ∀ r (U U' V V' : State), U'.heap = U.heap → V.vm.Alike V'.vm → V'.heap = V.heap → Got a D fV fC A o len r U V → Got a D fV fC A o len r U' V' :=
  fun r U U' V V' h1 hal h2 ⟨e0, D', X, a1, a2, a3, a4, a5, a6, a7, a8, a9, a10, a11⟩ => ⟨e0, D', X, a1.mv hal h2, a2, by rw [h1]; exact a3, a4, by rw [h1]; exact a5.mv hal h2, a6, by rw [hal.findClass]; exact a7, a8, a9, by rw [h1, h2]; exact a10, by rw [h1, h2]; exact a11⟩
namespace New4
def yN : MethodName := ⟨"java/lang/String", "<init>", "([CIILjava/lang/Void;)V"⟩
abbrev yB : ByteArray := jdk_42_method_149_code
theorem d0 : decode yB 0 = .ok (.aload_n 0, 1) := by decide +kernel
theorem d1 : decode yB 1 = .ok (.invokespecial 1, 3) := by decide +kernel
theorem d4 : decode yB 4 = .ok (.iload_n 3, 1) := by decide +kernel
theorem d5 : decode yB 5 = .ok (.ifCond (.ne) 22, 3) := by decide +kernel
theorem d27 : decode yB 27 = .ok (.getstatic 38, 3) := by decide +kernel
theorem d30 : decode yB 30 = .ok (.ifCond (.eq) 28, 3) := by decide +kernel
theorem d33 : decode yB 33 = .ok (.aload_n 1, 1) := by decide +kernel
theorem d34 : decode yB 34 = .ok (.iload_n 2, 1) := by decide +kernel
theorem d35 : decode yB 35 = .ok (.iload_n 3, 1) := by decide +kernel
theorem d36 : decode yB 36 = .ok (.invokestatic 177, 3) := by decide +kernel
theorem d39 : decode yB 39 = .ok (.astore 5, 2) := by decide +kernel
theorem d41 : decode yB 41 = .ok (.aload_n 0, 1) := by decide +kernel
theorem d42 : decode yB 42 = .ok (.aload 5, 2) := by decide +kernel
theorem d44 : decode yB 44 = .ok (.iload_n 3, 1) := by decide +kernel
theorem d45 : decode yB 45 = .ok (.invokestatic 47, 3) := by decide +kernel
theorem d48 : decode yB 48 = .ok (.putfield 15, 3) := by decide +kernel
theorem d51 : decode yB 51 = .ok (.aload_n 0, 1) := by decide +kernel
theorem d52 : decode yB 52 = .ok (.aload 5, 2) := by decide +kernel
theorem d54 : decode yB 54 = .ok (.putfield 9, 3) := by decide +kernel
theorem d57 : decode yB 57 = .ok (.return_, 1) := by decide +kernel
def site : List Cond := [.fieldLink "java/lang/String" 38 "java/lang/String" "COMPACT_STRINGS" "Z", Cmp3.tab, CodL.tab, .laysFinal "java/lang/String" "java/lang/String" "value" "[B", .fieldLink "java/lang/String" 9 "java/lang/String" "value" "[B", .laysFinal "java/lang/String" "java/lang/String" "coder" "B", .fieldLink "java/lang/String" 15 "java/lang/String" "coder" "B"] ++ objW "java/lang/String" 1 ++ staticW "java/lang/String" 177 Cmp3.yN ++ staticW "java/lang/String" 47 CodL.yN
def tab : Cond := tabOf yN yB 6 none site
def P (a : Addr) (D : Cell) (fV fC : Field) (b : Addr) (A : Cell) (z : Int32) (o len : Nat) (args : Array Value) (s : State) : Prop := args = #[.ref a, .ref b, .int (Int32.ofNat o), .int (Int32.ofNat len), .null] ∧ Blank "java/lang/String" a D s ∧ Found "java/lang/String" "value" "[B" fV s ∧ Found "java/lang/String" "coder" "B" fC s ∧ Ch b A s ∧ StaticIs s "java/lang/String" "COMPACT_STRINGS" "Z" (.int z) ∧ ¬ z = 0 ∧ 0 < len ∧ o + len ≤ A.slots.size ∧ len ≤ 536870912 ∧ ∀ i, i < len → ¬ 255 < cv A (o + i)
def E (a : Addr) (D : Cell) (fV fC : Field) (A : Cell) (o len : Nat) (r : Option Value) (s u : State) : Prop := Got a D fV fC A o len r s u
/-- len > 0, no char of the range above 255: a Latin-1 String of their low bytes -/
theorem law (l : Launch) (a : Addr) (D : Cell) (fV fC : Field) (b : Addr) (A : Cell) (z : Int32) (o len : Nat) : Law l yN 5 4 2 35 yB 6 none site (P a D fV fC b A z o len) (E a D fV fC A o len) [⟨a, fC.slot⟩, ⟨a, fV.slot⟩] 1 len := by
  refine Law.of_walk (plainFor_of_name (by decide +kernel)) (by decide +kernel) (by decide +kernel) (by decide) (fun _ _ h => by rw [h.1]; rfl) (fun _ U U' hal hh h => ⟨h.1, h.2.1.mv hal hh, h.2.2.1.al hal, h.2.2.2.1.al hal, h.2.2.2.2.1.mv hal hh, h.2.2.2.2.2.1.there hal hh, h.2.2.2.2.2.2⟩) (fun r U U' V V' h1 hal h2 h => Got.mv r U U' V V' h1 hal h2 h) ?_
  intro p e s m args below meth c s₁ X0 hexec hbytes hml hret hlk hnm hown hh0 W hP
  obtain ⟨rfl, hB, f1, f2, hA, s1, hz, l0, l1, l2, hp⟩ := hP
  have a31 := hA.1.2.2.2
  have c1 : Steps p.tables e below (s₁.setTop (entryFrame m #[.ref a, .ref b, .int (Int32.ofNat o), .int (Int32.ofNat len), .null] 6)) (s₁.setTop (mkF m 0 #[.val (.ref a), .val (.ref b), .val (.int (Int32.ofNat o)), .val (.int (Int32.ofNat len)), .val .null, .unset] [])) := entry rfl
  have c2 : Steps p.tables e below (s₁.setTop (entryFrame m #[.ref a, .ref b, .int (Int32.ofNat o), .int (Int32.ofNat len), .null] 6)) (s₁.setTop (mkF m 1 #[.val (.ref a), .val (.ref b), .val (.int (Int32.ofNat o)), .val (.int (Int32.ofNat len)), .val .null, .unset] [.ref a])) := c1.trans (by
    refine XS.aloadN X0.here hexec rfl (hb hbytes d0) rfl rfl ?_
    exact Steps.refl _)
  obtain ⟨T3, X3, q3, st3⟩ := X0.oinit hexec hown (wks W (objW "java/lang/String" 1)) (g := (mkF m 1 #[.val (.ref a), .val (.ref b), .val (.int (Int32.ofNat o)), .val (.int (Int32.ofNat len)), .val .null, .unset] [.ref a])) rfl (by rw [hml]; rfl) (rest := []) rfl (hb hbytes d1) (W := 0) (by show 2 * 0 + 0 ≤ _; decide) (Nat.le_of_ble_eq_true rfl) (Nat.le_of_ble_eq_true rfl)
  have hh3 := q3.trans hh0
  have c4 : Steps p.tables e below (s₁.setTop (entryFrame m #[.ref a, .ref b, .int (Int32.ofNat o), .int (Int32.ofNat len), .null] 6)) (T3.setTop (mkF m 27 #[.val (.ref a), .val (.ref b), .val (.int (Int32.ofNat o)), .val (.int (Int32.ofNat len)), .val .null, .unset] [])) := (c2.trans (st3 _ (Steps.refl _))).trans (by
    refine XS.iloadN X3.here hexec rfl (hb hbytes d4) rfl ?_
    refine XS.ifYes X3.here hexec rfl (pc0 := 5) rfl (hb hbytes d5) rfl (i0_ne_t (nz32 (by omega) l0)) (by decide) rfl ?_
    exact Steps.refl _)
  obtain ⟨T5, X5, q5, st5⟩ := X3.sget hexec hown (wk W (.fieldLink "java/lang/String" 38 "java/lang/String" "COMPACT_STRINGS" "Z")) s1 (fun _ _ h => by rw [hh3]; exact h) (g := (mkF m 27 #[.val (.ref a), .val (.ref b), .val (.int (Int32.ofNat o)), .val (.int (Int32.ofNat len)), .val .null, .unset] [])) rfl (hb hbytes d27)
  have hh5 := q5.trans hh3
  have c6 : Steps p.tables e below (s₁.setTop (entryFrame m #[.ref a, .ref b, .int (Int32.ofNat o), .int (Int32.ofNat len), .null] 6)) (T5.setTop (mkF m 30 #[.val (.ref a), .val (.ref b), .val (.int (Int32.ofNat o)), .val (.int (Int32.ofNat len)), .val .null, .unset] [.int z])) := c4.trans (st5 _ (Steps.refl _))
  have c7 : Steps p.tables e below (s₁.setTop (entryFrame m #[.ref a, .ref b, .int (Int32.ofNat o), .int (Int32.ofNat len), .null] 6)) (T5.setTop (mkF m 36 #[.val (.ref a), .val (.ref b), .val (.int (Int32.ofNat o)), .val (.int (Int32.ofNat len)), .val .null, .unset] [.int (Int32.ofNat len), .int (Int32.ofNat o), .ref b])) := c6.trans (by
    refine XS.ifNo X5.here hexec rfl (hb hbytes d30) rfl (i0_eq_f hz) ?_
    refine XS.aloadN X5.here hexec rfl (hb hbytes d33) rfl rfl ?_
    refine XS.iloadN X5.here hexec rfl (hb hbytes d34) rfl ?_
    refine XS.iloadN X5.here hexec rfl (hb hbytes d35) rfl ?_
    exact Steps.refl _)
  obtain ⟨v8, T8, X8, E8, g8⟩ := X5.callS hexec (Cmp3.law l b A o len) hown (wks W (staticW "java/lang/String" 177 Cmp3.yN)) (wk W Cmp3.tab) (W := 0) (Nat.le_of_ble_eq_true rfl) (Nat.le_of_ble_eq_true rfl) (Nat.le_refl _) (by show 0 + len ≤ len; omega) (g := (mkF m 36 #[.val (.ref a), .val (.ref b), .val (.int (Int32.ofNat o)), .val (.int (Int32.ofNat len)), .val .null, .unset] [.int (Int32.ofNat len), .int (Int32.ofNat o), .ref b])) rfl (by rw [hml]; rfl) c7 (argsL := [.ref b, .int (Int32.ofNat o), .int (Int32.ofNat len)]) (rest := []) rfl rfl (by show 2 * 0 + 0 ≤ _; decide) (hb hbytes d36) (⟨rfl, hA.mv X5.warmed.alike hh5, l1, l2, hp⟩)
  obtain ⟨e8, z8⟩ := E8
  obtain ⟨rfl, N, n1, n2, n3, n4, n5, n6⟩ := NewArr.mv _ T5 s _ _ hh5.symm (Vm.Alike.refl _) rfl e8
  rw [hh5] at z8
  have hB1 := hB.keep X8.warmed.alike (n6 _ _ hB.1)
  have hne : s.heap.size ≠ a := (Nat.ne_of_lt (Array.getElem?_eq_some_iff.mp hB.1).1).symm
  have c9 : Steps p.tables e below (s₁.setTop (entryFrame m #[.ref a, .ref b, .int (Int32.ofNat o), .int (Int32.ofNat len), .null] 6)) (T8.setTop (mkF m 39 #[.val (.ref a), .val (.ref b), .val (.int (Int32.ofNat o)), .val (.int (Int32.ofNat len)), .val .null, .unset] [.ref s.heap.size])) := g8
  have c10 : Steps p.tables e below (s₁.setTop (entryFrame m #[.ref a, .ref b, .int (Int32.ofNat o), .int (Int32.ofNat len), .null] 6)) (T8.setTop (mkF m 45 #[.val (.ref a), .val (.ref b), .val (.int (Int32.ofNat o)), .val (.int (Int32.ofNat len)), .val .null, .val (.ref s.heap.size)] [.int (Int32.ofNat N.slots.size), .ref s.heap.size, .ref a])) := by
    have hc : Steps p.tables e below (s₁.setTop (entryFrame m #[.ref a, .ref b, .int (Int32.ofNat o), .int (Int32.ofNat len), .null] 6)) (T8.setTop (mkF m 45 #[.val (.ref a), .val (.ref b), .val (.int (Int32.ofNat o)), .val (.int (Int32.ofNat len)), .val .null, .val (.ref s.heap.size)] [.int (Int32.ofNat len), .ref s.heap.size, .ref a])) := c9.trans (by
      refine XS.astore X8.here hexec rfl (hb hbytes d39) rfl rfl rfl ?_
      refine XS.aloadN X8.here hexec rfl (hb hbytes d41) rfl rfl ?_
      refine XS.aload X8.here hexec rfl (hb hbytes d42) rfl rfl ?_
      refine XS.iloadN X8.here hexec rfl (hb hbytes d44) rfl ?_
      exact Steps.refl _)
    rw [n4]; exact hc
  obtain ⟨v11, T11, X11, E11, g11⟩ := X8.callS hexec (CodL.law l s.heap.size N) hown (wks W (staticW "java/lang/String" 47 CodL.yN)) (wk W CodL.tab) (W := 1) (Nat.le_of_ble_eq_true rfl) (Nat.le_of_ble_eq_true rfl) (Nat.le_refl _) (by show 0 + len + 0 ≤ len; omega) (g := (mkF m 45 #[.val (.ref a), .val (.ref b), .val (.int (Int32.ofNat o)), .val (.int (Int32.ofNat len)), .val .null, .val (.ref s.heap.size)] [.int (Int32.ofNat N.slots.size), .ref s.heap.size, .ref a])) rfl (by rw [hml]; rfl) c10 (argsL := [.ref s.heap.size, .int (Int32.ofNat N.slots.size)]) (rest := [.ref a]) rfl rfl (by show 2 * 0 + (1 + 0) ≤ _; decide) (hb hbytes d45) (⟨rfl, n1⟩)
  obtain ⟨rfl, q11⟩ := E11
  have hB11 := hB1.mv (X8.warmed.alike.symm.trans X11.warmed.alike) q11
  have c12 : Steps p.tables e below (s₁.setTop (entryFrame m #[.ref a, .ref b, .int (Int32.ofNat o), .int (Int32.ofNat len), .null] 6)) (T11.setTop (mkF m 48 #[.val (.ref a), .val (.ref b), .val (.int (Int32.ofNat o)), .val (.int (Int32.ofNat len)), .val .null, .val (.ref s.heap.size)] [.int 0, .ref a])) := g11
  obtain ⟨T13, X13, p13, bl13, sl13, st13⟩ := X11.finit hexec hown (wk W (.fieldLink "java/lang/String" 15 "java/lang/String" "coder" "B")) (Or.inr ⟨_, (wk W (.laysFinal "java/lang/String" "java/lang/String" "coder" "B"))⟩) (Or.inl ⟨rfl, hnm⟩) f2 (Or.inl rfl) hB11 (t := .byte) (by decide +kernel) rfl (g := (mkF m 48 #[.val (.ref a), .val (.ref b), .val (.int (Int32.ofNat o)), .val (.int (Int32.ofNat len)), .val .null, .val (.ref s.heap.size)] [.int 0, .ref a])) rfl (rest := []) rfl (hb hbytes d48)
  have c14 : Steps p.tables e below (s₁.setTop (entryFrame m #[.ref a, .ref b, .int (Int32.ofNat o), .int (Int32.ofNat len), .null] 6)) (T13.setTop (mkF m 54 #[.val (.ref a), .val (.ref b), .val (.int (Int32.ofNat o)), .val (.int (Int32.ofNat len)), .val .null, .val (.ref s.heap.size)] [.ref s.heap.size, .ref a])) := (c12.trans (st13 _ (Steps.refl _))).trans (by
    refine XS.aloadN X13.here hexec rfl (hb hbytes d51) rfl rfl ?_
    refine XS.aload X13.here hexec rfl (hb hbytes d52) rfl rfl ?_
    exact Steps.refl _)
  obtain ⟨T15, X15, p15, bl15, sl15, st15⟩ := X13.finit hexec hown (wk W (.fieldLink "java/lang/String" 9 "java/lang/String" "value" "[B")) (Or.inr ⟨_, (wk W (.laysFinal "java/lang/String" "java/lang/String" "value" "[B"))⟩) (Or.inl ⟨rfl, hnm⟩) f1 (Or.inl rfl) bl13 (t := (.array .byte)) (by decide +kernel) rfl (g := (mkF m 54 #[.val (.ref a), .val (.ref b), .val (.int (Int32.ofNat o)), .val (.int (Int32.ofNat len)), .val .null, .val (.ref s.heap.size)] [.ref s.heap.size, .ref a])) rfl (rest := []) rfl (hb hbytes d54)
  have c16 : Steps p.tables e below (s₁.setTop (entryFrame m #[.ref a, .ref b, .int (Int32.ofNat o), .int (Int32.ofNat len), .null] 6)) (T15.setTop (mkF m 57 #[.val (.ref a), .val (.ref b), .val (.int (Int32.ofNat o)), .val (.int (Int32.ofNat len)), .val .null, .val (.ref s.heap.size)] [])) := c14.trans (st15 _ (Steps.refl _))
  have ap := apart (Or.inr ⟨_, (wk W (.laysFinal "java/lang/String" "java/lang/String" "value" "[B"))⟩) (Or.inr ⟨_, (wk W (.laysFinal "java/lang/String" "java/lang/String" "coder" "B"))⟩) f1 f2 (t₁ := .array .byte) (t₂ := .byte) (by decide +kernel) (by decide +kernel) (by decide)
  have al := X8.warmed.alike.symm.trans X15.warmed.alike
  have n7 : T11.heap[s.heap.size]? = some N := by rw [q11]; exact n1.1
  exact ⟨T15, none, _, _, _, X15, by simp, rfl, by omega, (fun _ => rfl), ⟨rfl, _, N, bl15, ((Same.refl D _).set _ (by simp)).set _ (by simp), sl15, (Cell.slots_setSlot_ne _ ap).trans sl13, n1.keep al (p15.other hne (p13.other hne n7)), n2, by rw [al.findClass]; exact n3, n4, n5, fun y c h1 h2 => p15.other h1 (p13.other h1 (by rw [q11]; exact n6 y c h2)), by rw [p15.2.2, p13.2.2, q11]; exact z8⟩, fun fs hl => c16.trans (X15.returnOut hexec hret (hb hbytes d57) hl)⟩
end New4
namespace New1
def yN : MethodName := ⟨"java/lang/String", "<init>", "([C)V"⟩
abbrev yB : ByteArray := jdk_42_method_3_code
theorem d0 : decode yB 0 = .ok (.aload_n 0, 1) := by decide +kernel
theorem d1 : decode yB 1 = .ok (.aload_n 1, 1) := by decide +kernel
theorem d2 : decode yB 2 = .ok (.iconst 0, 1) := by decide +kernel
theorem d3 : decode yB 3 = .ok (.aload_n 1, 1) := by decide +kernel
theorem d4 : decode yB 4 = .ok (.arraylength, 1) := by decide +kernel
theorem d5 : decode yB 5 = .ok (.aconst_null, 1) := by decide +kernel
theorem d6 : decode yB 6 = .ok (.invokespecial 27, 3) := by decide +kernel
theorem d9 : decode yB 9 = .ok (.return_, 1) := by decide +kernel
def site : List Cond := [New4.tab] ++ initW "java/lang/String" 27 New4.yN
def tab : Cond := tabOf yN yB 2 none site
def P (a : Addr) (D : Cell) (fV fC : Field) (b : Addr) (A : Cell) (z : Int32) (args : Array Value) (s : State) : Prop := args = #[.ref a, .ref b] ∧ Blank "java/lang/String" a D s ∧ Found "java/lang/String" "value" "[B" fV s ∧ Found "java/lang/String" "coder" "B" fC s ∧ Ch b A s ∧ StaticIs s "java/lang/String" "COMPACT_STRINGS" "Z" (.int z) ∧ ¬ z = 0 ∧ 0 < A.slots.size ∧ A.slots.size ≤ 536870912 ∧ ∀ i, i < A.slots.size → ¬ 255 < cv A i
def E (a : Addr) (D : Cell) (fV fC : Field) (A : Cell) (r : Option Value) (s u : State) : Prop := Got a D fV fC A 0 A.slots.size r s u
/-- new String(chars), not empty, no char above 255: a Latin-1 String of their low bytes -/
theorem law (l : Launch) (a : Addr) (D : Cell) (fV fC : Field) (b : Addr) (A : Cell) (z : Int32) : Law l yN 2 1 3 52 yB 2 none site (P a D fV fC b A z) (E a D fV fC A) [⟨a, fC.slot⟩, ⟨a, fV.slot⟩] 1 A.slots.size := by
  refine Law.of_walk (plainFor_of_name (by decide +kernel)) (by decide +kernel) (by decide +kernel) (by decide) (fun _ _ h => by rw [h.1]; rfl) (fun _ U U' hal hh h => ⟨h.1, h.2.1.mv hal hh, h.2.2.1.al hal, h.2.2.2.1.al hal, h.2.2.2.2.1.mv hal hh, h.2.2.2.2.2.1.there hal hh, h.2.2.2.2.2.2⟩) (fun r U U' V V' h1 hal h2 h => Got.mv r U U' V V' h1 hal h2 h) ?_
  intro p e s m args below meth c s₁ X0 hexec hbytes hml hret hlk hnm hown hh0 W hP
  obtain ⟨rfl, hB, f1, f2, hA, s1, hz, l0, l2, hp⟩ := hP
  have c1 : Steps p.tables e below (s₁.setTop (entryFrame m #[.ref a, .ref b] 2)) (s₁.setTop (mkF m 0 #[.val (.ref a), .val (.ref b)] [])) := entry rfl
  have c2 : Steps p.tables e below (s₁.setTop (entryFrame m #[.ref a, .ref b] 2)) (s₁.setTop (mkF m 6 #[.val (.ref a), .val (.ref b)] [.null, .int (Int32.ofNat A.slots.size), .int 0, .ref b, .ref a])) := c1.trans (by
    refine XS.aloadN X0.here hexec rfl (hb hbytes d0) rfl rfl ?_
    refine XS.aloadN X0.here hexec rfl (hb hbytes d1) rfl rfl ?_
    refine iconstV X0.here hexec rfl 0 (hb hbytes d2) (by decide) ?_
    refine XS.aloadN X0.here hexec rfl (hb hbytes d3) rfl rfl ?_
    refine X0.alen hexec (hA.1.mv X0.warmed.alike hh0) rfl rfl (hb hbytes d4) ?_
    refine XS.aconstNull X0.here hexec rfl (hb hbytes d5) ?_
    exact Steps.refl _)
  obtain ⟨v3, T3, X3, E3, g3⟩ := X0.callN hexec (New4.law l a D fV fC b A z 0 A.slots.size) rfl hown (wks W (initW "java/lang/String" 27 New4.yN)) (W New4.tab (by simp only [site, List.mem_cons, List.mem_append, true_or, or_true])) (W := 0) (Nat.le_of_ble_eq_true rfl) (Nat.le_of_ble_eq_true rfl) (Nat.le_refl _) (by show 0 + A.slots.size ≤ A.slots.size; omega) (g := (mkF m 6 #[.val (.ref a), .val (.ref b)] [.null, .int (Int32.ofNat A.slots.size), .int (Int32.ofNat 0), .ref b, .ref a])) rfl (by rw [hml]; rfl) c2 (argsL := [.ref b, .int (Int32.ofNat 0), .int (Int32.ofNat A.slots.size), .null]) (rest := []) rfl rfl (by show 2 * 0 + 0 ≤ _; decide) (hb hbytes d6) (⟨rfl, hB.mv X0.warmed.alike hh0, f1.al X0.warmed.alike, f2.al X0.warmed.alike, hA.mv X0.warmed.alike hh0, s1.there X0.warmed.alike hh0, hz, l0, by omega, l2, fun i hi => by rw [Nat.zero_add]; exact hp i hi⟩)
  have e0 := Got.mv _ s₁ s _ _ hh0.symm (Vm.Alike.refl _) rfl E3
  obtain rfl := e0.1
  have c4 : Steps p.tables e below (s₁.setTop (entryFrame m #[.ref a, .ref b] 2)) (T3.setTop (mkF m 9 #[.val (.ref a), .val (.ref b)] [])) := g3
  exact ⟨T3, none, _, _, _, X3, by simp, rfl, by omega, (fun _ => rfl), e0, fun fs hl => c4.trans (X3.returnOut hexec hret (hb hbytes d9) hl)⟩
theorem pays {l : Launch} {R : Room} {p : Program} {e : Env} {below : List Frame} {s : State} {sargs : Array Value} {len W : Nat} (a : Addr) (D : Cell) (fV fC : Field) (b : Addr) (A : Cell) (z : Int32) (htab : tab.before sargs s = true) (hfr : 4 ≤ R.frames) (hlo : W + 65 ≤ R.locals) :
    Back l R p e below s sargs yN len W (fun A₁ a₁ => A₁.cells + 1 ≤ R.cells ∧ A₁.slots + A.slots.size ≤ R.slots ∧ P a D fV fC b A z a₁ A₁.U) (fun A₁ _ v₁ B₁ => E a D fV fC A v₁ A₁.U B₁.U ∧ B₁.locs = A₁.locs ++ [⟨a, fC.slot⟩, ⟨a, fV.slot⟩] ∧ B₁.cells = A₁.cells + 1 ∧ B₁.slots = A₁.slots + A.slots.size) :=
  (law l a D fV fC b A z).pays htab hfr (by omega)
end New1
/-- the byte, read back as charAt reads it, is the char -/
theorem lo8_mask {x : Int32} (h0 : ¬ x < 0) (h1 : ¬ 255 < x) : lo8 x &&& 255 = x := by
  have t : ∀ k : Fin 256, lo8 (Int32.ofNat k.val) &&& 255 = Int32.ofNat k.val := by decide +kernel
  rw [Int32.lt_iff_toInt_lt] at h0 h1
  have e0 : (0 : Int32).toInt = 0 := rfl
  have e1 : (255 : Int32).toInt = 255 := rfl
  obtain ⟨k, hk⟩ : ∃ k : Nat, x.toInt = k := ⟨x.toInt.toNat, by omega⟩
  have hx : x = Int32.ofNat k := Int32.toInt_inj.mp (by rw [hk, Int32.toInt_ofNat_small (by omega)])
  rw [hx]
  exact t ⟨k, by omega⟩
end StrChars
namespace StrChars.Road
open Jvm Sem ClassFile Op Lib Jvm.Stand Jvm.Free Jvm.Free.XT
open Jvm.Lib.Cold (StaticIs)
abbrev ST : String := "java/lang/String"
/-- every table word that New1's law asks, flat -/
abbrev words : List Jvm.Cond := [.code New1.yN New1.yB 2 none, .initialized ST, .methodLink ST 27 New4.yN, .instanceMethod New4.yN,
  .code New4.yN New4.yB 6 none, .fieldLink ST 38 ST "COMPACT_STRINGS" "Z", .laysFinal ST ST "value" "[B", .fieldLink ST 9 ST "value" "[B", .laysFinal ST ST "coder" "B", .fieldLink ST 15 ST "coder" "B",
  .methodLink ST 1 Lib.objectInit, .instanceMethod Lib.objectInit, .code Lib.objectInit ⟨#[0xb1]⟩ 1 none, .methodLink ST 177 Cmp3.yN, .static Cmp3.yN, .methodLink ST 47 CodL.yN, .static CodL.yN,
  .code Cmp3.yN Cmp3.yB 6 (some (.array .byte)), .initialized U16, .arrayClass .byte, .methodLink U16 115 Cmp5.yN, .static Cmp5.yN, .code Cmp5.yN Cmp5.yB 7 (some .int), .code CodL.yN CodL.yB 2 (some .byte)]
theorem tab_of {a : Array Value} {s : State} (h : ∀ w ∈ words, w.before a s = true) : New1.tab.before a s = true := by
  have h5 : Cmp5.tab.before a s = true := unparts (wk h (.code Cmp5.yN Cmp5.yB 7 (some .int))) (wks h (.initialized Cmp5.yN.cls :: Cmp5.site))
  have hc : CodL.tab.before a s = true := unparts (wk h (.code CodL.yN CodL.yB 2 (some .byte))) (wks h (.initialized CodL.yN.cls :: CodL.site))
  have q5 : ∀ w ∈ Cmp5.tab :: words, w.before a s = true := fun w hw => (List.mem_cons.mp hw).elim (fun e => e ▸ h5) (h w)
  have h3 : Cmp3.tab.before a s = true := unparts (wk q5 (.code Cmp3.yN Cmp3.yB 6 (some (.array .byte)))) (wks q5 (.initialized Cmp3.yN.cls :: Cmp3.site))
  have q3 : ∀ w ∈ Cmp3.tab :: CodL.tab :: words, w.before a s = true := fun w hw => (List.mem_cons.mp hw).elim (fun e => e ▸ h3) fun hw => (List.mem_cons.mp hw).elim (fun e => e ▸ hc) (h w)
  have h4 : New4.tab.before a s = true := unparts (wk q3 (.code New4.yN New4.yB 6 none)) (wks q3 (.initialized New4.yN.cls :: New4.site))
  have q4 : ∀ w ∈ New4.tab :: words, w.before a s = true := fun w hw => (List.mem_cons.mp hw).elim (fun e => e ▸ h4) (h w)
  exact unparts (wk q4 (.code New1.yN New1.yB 2 none)) (wks q4 (.initialized New1.yN.cls :: New1.site))
/-- the words ride from the start Z to the walk's own state -/
theorem moved {Z s : State} {a0 args : Array Value} (hZ : Z.Warmed39 s.vm) (hw : ∀ d ∈ words, d.before a0 Z = true) : ∀ d ∈ words, d.before args s = true := fun d hd => by
  have q := hw d hd
  have t : ∀ d ∈ words, d = .arrayClass .byte ∨ (d.onTables && d.keepsFace) = true := by decide +kernel
  rcases t d hd with rfl | t
  · exact RoadKit.mvA hZ q
  · exact RoadKit.mv hZ q t
/-- WHAT COMES BACK, over the tables of the start Z: h the heap at the call, h' behind it -/
def Q (Z : State) (x : Addr) (A : Cell) (h : Heap) (v : Option Value) (h' : Heap) (L : List Loc) : Prop := v = none ∧ (∀ y ∈ L, y.base = x) ∧ RoadKit.Keep h h' [x] ∧ h'.size = h.size + 1 ∧ RoadKit.Exa Z h' x ST ∧ RoadKit.Fld Z h' x ST "value" "[B" (.ref h.size) ∧ RoadKit.Fld Z h' x ST "coder" "B" (.int 0) ∧
  (∃ V : Cell, RoadKit.Arr Z h' h.size V .byte ∧ V.vm = .none ∧ Z.vm.findClass "[B" = some V.cls ∧ V.slots.size = A.slots.size ∧ ∀ j, j < A.slots.size → V.slots[j]? = some (.int (lo8 (cv A j)))) ∧
  ∀ (O n d : String) (w : Value), RoadKit.Fld Z h x O n d w → RoadKit.slotOf Z O n d ≠ RoadKit.slotOf Z ST "value" "[B" → RoadKit.slotOf Z O n d ≠ RoadKit.slotOf Z ST "coder" "B" → RoadKit.Fld Z h' x O n d w
/-- **new String(chars) AT A CALL, IN THE ROAD'S FORM**: for specialBack behind newO: x the fresh String, b the char[] with the cell A -/
theorem back {p : Program} {l : Launch} {e : Env} {R : Room} {s : State} {args : Array Value} {below : List Frame} {len W : Nat} {Z : State} {a0 : Array Value} {h : Heap} (hZ : Z.Warmed39 s.vm) (hw : ∀ d ∈ words, d.before a0 Z = true) {kI : Nat} (wi : (Jvm.Cond.instantiable ST kI).before a0 Z = true)
    {x b : Addr} {A : Cell} {z : Int32} {v0 c0 : Value} (E : RoadKit.Exa Z h x ST) (V : RoadKit.Fld Z h x ST "value" "[B" v0) (C : RoadKit.Fld Z h x ST "coder" "B" c0) (K : RoadKit.Arr Z h b A .char) (hty : Typed .char A) (S : RoadKit.Sta Z h ST "COMPACT_STRINGS" "Z" (.int z)) (hz : ¬ z = 0)
    (l0 : 0 < A.slots.size) (l2 : A.slots.size ≤ 536870912) (hp : ∀ i, i < A.slots.size → ¬ 255 < cv A i) (hfr : 4 ≤ R.frames) (hlo : W + 65 ≤ R.locals) :
    Back l R p e below s args New1.yN len W (fun P a => a = #[.ref x, .ref b] ∧ P.U.heap = h ∧ P.cells + 1 ≤ R.cells ∧ P.slots + A.slots.size ≤ R.slots)
      (fun P _ v B => ∃ L, Q Z x A h v B.U.heap L ∧ B.locs = P.locs ++ L ∧ B.cells = P.cells + 1 ∧ B.slots = P.slots + A.slots.size) := by
  intro m meth c P g ig mk a X hg hsize hdg hW hn hp'
  obtain ⟨rfl, rfl, r1, r2⟩ := hp'
  have al : Z.vm.Alike P.U.vm := hZ.alike.trans X.warmed.alike
  obtain ⟨D, cfV, kV, iV, fV, hD, gV, stV, knV, obV, asV, slV⟩ := id V
  obtain ⟨D', cfC, kC, iC, fC, hD', gC, stC, -, -, asC, slC⟩ := id C
  cases hD.symm.trans hD'
  obtain ⟨D2, kD, e1, e2, e3, e4, e5⟩ := id E
  cases hD.symm.trans e1
  obtain ⟨c2, k2, i1, i2, i3, -⟩ := Cond.instantiable_spec wi
  cases e2.symm.trans i1
  cases e3.symm.trans i2
  obtain ⟨kU, u1, u2⟩ := al.2.2 _ _ e3
  have hB : Blank ST x D P.U := ⟨hD, ⟨knV, fun q hq => by rw [hq] at obV; cases obV⟩, by rw [al.findClass]; exact e2, kU, u1, by rw [u2]; exact i3, by rw [u2]; exact e5 i3⟩
  have F1 : Found ST "value" "[B" fV P.U := ⟨SBG.found_only al ⟨cfV, kV, iV, gV⟩, stV⟩
  have F2 : Found ST "coder" "B" fC P.U := ⟨SBG.found_only al ⟨cfC, kC, iC, gC⟩, stC⟩
  have hA : Ch b A P.U := ⟨⟨K.1, State.isArrayOf_alike al K.2.1, K.2.2, by omega⟩, hty⟩
  have hS : StaticIs P.U ST "COMPACT_STRINGS" "Z" (.int z) := by
    obtain ⟨cfS, iS, kS, fS, st, cS, t1, t2, t3, t4, t5, t6, t7⟩ := S
    exact StaticIs.there (s := { Z with heap := P.U.heap }) ⟨cfS, iS, kS, fS, st, cS, t1, t2, t3, t4, t5, (fun q => by rw [q] at t6; cases t6), t7⟩ al rfl
  obtain ⟨v, B, X', ⟨⟨hv, E', V', q1, q2, q3, q4, q5, q6, q7, q8, q9, q10, q11⟩, hl, hc, hs⟩, st⟩ := New1.pays x D fV fC b A z (tab_of (moved hZ hw)) hfr hlo m meth c P g ig mk _ X hg hsize hdg hW hn ⟨r1, r2, rfl, hB, F1, F2, hA, hS, hz, l0, l2, hp⟩
  have al' : Z.vm.Alike B.U.vm := hZ.alike.trans X'.warmed.alike
  have hsz : E'.slots.size = D.slots.size := by
    obtain ⟨-, -, -, kB, w1, w2, w3⟩ := q1
    obtain ⟨kB', y1, y2⟩ := al'.2.2 _ _ e3
    rw [q2.2.1] at w1
    cases w1.symm.trans y1
    rw [w3, e5 i3, y2]
  refine ⟨v, B, X', ⟨_, ⟨hv, ?_, ⟨by omega, fun y cy hy hn' => q10 y cy (by simpa using hn') hy, fun y cy hy => ?_⟩, q11, ⟨E', _, q1.1, by rw [q2.2.1]; exact e2, by rw [q2.2.1]; exact e3, by rw [q2.1]; exact obV, fun _ => by rw [hsz]; exact e5 i3⟩,
    ⟨E', cfV, kV, iV, fV, q1.1, gV, stV, by rw [q2.1]; exact knV, by rw [q2.1]; exact obV, by rw [q2.2.1]; exact asV, q3⟩, ⟨E', cfC, kC, iC, fC, q1.1, gC, stC, by rw [q2.1]; exact knV, by rw [q2.1]; exact obV, by rw [q2.2.1]; exact asC, q4⟩,
    ⟨V', ⟨q5.1, State.isArrayOf_alike al'.symm q5.2.1, q5.2.2.1⟩, q6, by rw [← al'.findClass]; exact q7, q8, fun j hj => by have := q9 j hj; rwa [Nat.zero_add] at this⟩, fun O n d w F n1 n2 => ?_⟩, hl, hc, hs⟩, st⟩
  · intro y hy
    simp only [List.mem_cons, List.not_mem_nil, or_false] at hy
    rcases hy with rfl | rfl <;> rfl
  · by_cases q : y = x
    · subst q
      cases hD.symm.trans hy
      exact ⟨E', q1.1, q2.2.1, q2.1, hsz⟩
    · exact ⟨cy, q10 y cy q hy, rfl, rfl, rfl⟩
  · obtain ⟨D3, cf, k, i, f, g1, g2, g3, g4, g5, g6, g7⟩ := F
    cases hD.symm.trans g1
    simp only [RoadKit.slotOf, g2, gV, gC, Option.map_some, Option.getD_some] at n1 n2
    exact ⟨E', cf, k, i, f, q1.1, g2, g3, by rw [q2.1]; exact g4, by rw [q2.1]; exact g5, by rw [q2.2.1]; exact g6, by rw [q2.2.2 f.slot (by simp [n1, n2])]; exact g7⟩
end StrChars.Road
namespace StrChars.Road
open Jvm Sem ClassFile Op Lib Jvm.Stand Jvm.Free Jvm.Free.XT
/-- WHAT COMES BACK, the byte[] as a list of values -/
def QA (Z : State) (x : Addr) (zn : Int32) (cs : List Int32) (h : Heap) (v : Option Value) (h' : Heap) (L : List Loc) : Prop := v = none ∧ (∀ y ∈ L, y.base = x) ∧ RoadKit.Keep h h' [x] ∧ h'.size = h.size + 1 ∧ RoadKit.Exa Z h' x ST ∧ RoadKit.Fld Z h' x ST "value" "[B" (.ref h.size) ∧ RoadKit.Fld Z h' x ST "coder" "B" (.int 0) ∧
  (∃ kb, Z.vm.findClass "[B" = some kb ∧ RoadKit.Arv Z h' h.size kb .byte zn (cs.map fun c => .int (lo8 c)) (.int 0)) ∧
  ∀ (O n d : String) (w : Value), RoadKit.Fld Z h x O n d w → RoadKit.slotOf Z O n d ≠ RoadKit.slotOf Z ST "value" "[B" → RoadKit.slotOf Z O n d ≠ RoadKit.slotOf Z ST "coder" "B" → RoadKit.Fld Z h' x O n d w
/-- **new String(chars) AT A CALL, THE ARRAYS AS LISTS**: the char[] at b holds cs, not empty, no char above 255 -/
theorem backArv {p : Program} {l : Launch} {e : Env} {R : Room} {s : State} {args : Array Value} {below : List Frame} {len W : Nat} {Z : State} {a0 : Array Value} {h : Heap} (hZ : Z.Warmed39 s.vm) (hw : ∀ d ∈ words, d.before a0 Z = true) {kI : Nat} (wi : (Jvm.Cond.instantiable ST kI).before a0 Z = true)
    {x b : Addr} {k : ClassId} {zn z : Int32} {cs : List Int32} {dv v0 c0 : Value} (E : RoadKit.Exa Z h x ST) (V : RoadKit.Fld Z h x ST "value" "[B" v0) (C : RoadKit.Fld Z h x ST "coder" "B" c0) (K : RoadKit.Arv Z h b k .char zn (cs.map Value.int) dv) (S : RoadKit.Sta Z h ST "COMPACT_STRINGS" "Z" (.int z)) (hz : ¬ z = 0)
    (hlen : zn.toNatClampNeg = cs.length) (h0 : 0 < cs.length) (hbig : cs.length ≤ 536870912) (hall : ∀ c ∈ cs, ¬ 255 < c) (hfr : 4 ≤ R.frames) (hlo : W + 65 ≤ R.locals) :
    Back l R p e below s args New1.yN len W (fun P a => a = #[.ref x, .ref b] ∧ P.U.heap = h ∧ P.cells + 1 ≤ R.cells ∧ P.slots + cs.length ≤ R.slots)
      (fun P _ v B => ∃ L, QA Z x zn cs h v B.U.heap L ∧ B.locs = P.locs ++ L ∧ B.cells = P.cells + 1 ∧ B.slots = P.slots + cs.length) := by
  obtain ⟨A, K1, K2, K3, K4, K5, K6⟩ := K
  have e : A.slots.size = cs.length := K3.trans hlen
  have hat : ∀ (i : Nat) (hi : i < cs.length), A.slots[i]? = some (.int cs[i]) := fun i hi => by rw [K5 i (by omega)]; simp [List.getD_eq_getElem?_getD, hi]
  have hcv : ∀ (i : Nat) (hi : i < cs.length), cv A i = cs[i] := fun i hi => by unfold cv; rw [hat i hi]
  have hty : Typed .char A := fun i v hv => by
    have hi : i < A.slots.size := (Array.getElem?_eq_some_iff.mp hv).1
    have q := K5 i hi
    rw [hv] at q
    rw [Option.some.inj q]
    exact K6 i hi
  refine Back.mono (back hZ hw wi E V C K1 hty S hz (by omega) (by omega) (fun i hi => by rw [hcv i (by omega)]; exact hall _ (List.getElem_mem _)) hfr hlo) (fun P a hp => ⟨hp.1, hp.2.1, hp.2.2.1, by rw [e]; exact hp.2.2.2⟩) (fun P a v B hp hq => ?_)
  obtain ⟨L, ⟨q1, q2, q3, q4, q5, q6, q7, ⟨V', v1, v2, v3, v4, v5⟩, q9⟩, hl, hc, hs⟩ := hq
  refine ⟨L, ⟨q1, q2, q3, q4, q5, q6, q7, ⟨V'.cls, v3, V', v1, rfl, by rw [v4, e, hlen], K4, fun i hi => ?_, fun i hi => ?_⟩, q9⟩, hl, hc, by rw [hs, e]⟩
  · have hi' : i < cs.length := by omega
    rw [v5 i (by omega), hcv i hi']; simp [List.getD_eq_getElem?_getD, hi']
  · have hi' : i < cs.length := by omega
    simp only [List.getD_eq_getElem?_getD, List.getElem?_map, List.getElem?_eq_getElem hi', Option.map_some, Option.getD_some]
    exact fits_lo8 _
end StrChars.Road
namespace StrChars.Road
open Jvm Sem ClassFile Op Lib Jvm.Stand Jvm.Free Jvm.Free.XT
/-- WHAT COMES BACK, in the writer's own shape -/
def QV (Z : State) (x : Addr) (N : Int32) (bs : List Int32) (h : Heap) (n0 : Nat) (v : Option Value) (h' : Heap) (L : List Loc) : Prop := v = none ∧ RoadKit.Fr n0 L ∧ RoadKit.Keep h h' [x] ∧ RoadKit.Exa Z h' x ST ∧ RoadKit.Fld Z h' x ST "coder" "B" (.int 0) ∧
  ∃ (t : Addr) (kb : ClassId), n0 ≤ t ∧ h.size ≤ t ∧ ¬ t = x ∧ RoadKit.Fld Z h' x ST "value" "[B" (.ref t) ∧ RoadKit.Arv Z h' t kb .byte N (bs.map Value.int) (.int 0)
/-- **new String(chars) AT A CALL, FOR THE WRITER**: a char[] of n known ints, each 0 to 255 -/
theorem backV {p : Program} {l : Launch} {e : Env} {R : Room} {s : State} {args : Array Value} {below : List Frame} {len W : Nat} {Z : State} {a0 : Array Value} {h : Heap} (hZ : Z.Warmed39 s.vm) (hw : ∀ d ∈ words, d.before a0 Z = true) {kI : Nat} (wi : (Jvm.Cond.instantiable ST kI).before a0 Z = true)
    {x b : Addr} {kC : ClassId} {cs bs : List Int32} {d v0 c0 : Value} {z N : Int32} {n n0 : Nat} (hx0 : n0 ≤ x) (hh0 : n0 ≤ h.size) (E : RoadKit.Exa Z h x ST) (V : RoadKit.Fld Z h x ST "value" "[B" v0) (C : RoadKit.Fld Z h x ST "coder" "B" c0) (K : RoadKit.Arv Z h b kC .char N (cs.map Value.int) d) (S : RoadKit.Sta Z h ST "COMPACT_STRINGS" "Z" (.int z)) (hz : ¬ z = 0)
    (hn : cs.length = n) (hN : N = Int32.ofNat n) (l0 : 0 < n) (l2 : n ≤ 4000) (hp : ∀ c ∈ cs, ¬ c < 0 ∧ ¬ (255 : Int32) < c) (hb : bs = cs.map (fun c => c.toInt8.toInt32)) (hfr : 4 ≤ R.frames) (hlo : W + 65 ≤ R.locals) :
    Back l R p e below s args (⟨"java/lang/String", "<init>", "([C)V"⟩ : MethodName) len W (fun P a => a = #[.ref x, .ref b] ∧ P.U.heap = h ∧ P.cells + 1 ≤ R.cells ∧ P.slots + n ≤ R.slots)
      (fun P _ v B => ∃ L, QV Z x N bs h n0 v B.U.heap L ∧ B.locs = P.locs ++ L ∧ B.cells = P.cells + 1 ∧ B.slots = P.slots + n) := by
  subst hn hN hb
  refine Back.mono (backArv hZ hw wi E V C K S hz (n32 (by omega)) l0 (by omega) (fun c hc => (hp c hc).2) hfr hlo) (fun P a hp => hp) (fun P a v B hp hq => ?_)
  obtain ⟨L, ⟨q1, q2, q3, q4, q5, q6, q7, ⟨kb, v1, v2⟩, q9⟩, hl, hc, hs⟩ := hq
  exact ⟨L, ⟨q1, fun y hy => by rw [q2 y hy]; exact hx0, q3, q5, q7, h.size, kb, hh0, Nat.le_refl _, Nat.ne_of_gt E.lt, q6, by rw [List.map_map]; exact v2⟩, hl, hc, hs⟩
end StrChars.Road
namespace StrChars
open Jvm Sem ClassFile Op Lib Jvm.Stand Jvm.Free.XT Jvm.Free.ALB Jvm.Free.JM Jvm.Free
open Jvm.Lib.Cold (StaticIs)
def hi8 (x : Int32) : Int32 := lo8 (x >>> ((8 : Int32) &&& 31))
/-- what StringUTF16.getChar makes of two bytes -/
def pairCh (u v : Int32) : Int32 := (((u &&& 255) <<< ((0 : Int32) &&& 31)) ||| ((v &&& 255) <<< ((8 : Int32) &&& 31))).toUInt32.toUInt16.toUInt32.toInt32
theorem shr0 (c : Int32) : c >>> ((0 : Int32) &&& 31) = c := by
  have e : ((0 : Int32) &&& 31) = 0 := by decide
  rw [e]
  apply Int32.toBitVec_inj.mp
  rw [Int32.toBitVec_shiftRight]
  have e1 : ((0 : Int32).toBitVec.smod 32) = 0#32 := by decide
  rw [e1, BitVec.sshiftRight_eq']
  exact BitVec.sshiftRight_zero
theorem lo8_and (x : Int32) : (lo8 x &&& 255).toBitVec.toNat = x.toBitVec.toNat % 256 := by
  have h : (lo8 x).toBitVec = (x.toBitVec.signExtend 8).signExtend 32 := by rw [lo8, Int8.toBitVec_toInt32, Int32.toBitVec_toInt8]
  rw [Int32.toBitVec_and, BitVec.toNat_and, h]
  have e : ((x.toBitVec.signExtend 8).signExtend 32).toNat % 256 = x.toBitVec.toNat % 256 := by
    rw [BitVec.toNat_signExtend]
    have hlt := x.toBitVec.isLt
    simp only [BitVec.toNat_setWidth, BitVec.toNat_signExtend]
    split <;> split <;> omega
  rw [← e]
  exact Nat.and_two_pow_sub_one_eq_mod _ 8
theorem pair_says {c : Int32} (h0 : ¬ c < 0) (h1 : ¬ 65535 < c) : pairCh (lo8 c) (hi8 c) = c := by
  rw [Int32.lt_iff_toInt_lt] at h0 h1
  have e0 : (0 : Int32).toInt = 0 := rfl
  have e1 : (65535 : Int32).toInt = 65535 := rfl
  have hc : c.toInt = c.toBitVec.toNat := by
    have := c.toBitVec.isLt
    have e : c.toInt = c.toBitVec.toInt := rfl
    rw [e] at h0 h1
    rw [e]
    rw [BitVec.toInt_eq_toNat_cond] at h0 h1 ⊢
    split at h0 <;> split <;> omega
  have hn : c.toBitVec.toNat < 65536 := by omega
  have a1 := lo8_and c
  have a2 : (hi8 c &&& 255).toBitVec.toNat = c.toBitVec.toNat / 256 := by
    rw [hi8, lo8_and]
    have e : ((8 : Int32) &&& 31) = 8 := by decide
    rw [e, Int32.toBitVec_shiftRight]
    have e2 : ((8 : Int32).toBitVec.smod 32) = 8#32 := by decide
    rw [e2, BitVec.sshiftRight_eq', BitVec.toNat_sshiftRight_of_msb_false (by rw [BitVec.msb_eq_false_iff_two_mul_lt]; omega)]
    show c.toBitVec.toNat >>> 8 % 256 = _
    rw [Nat.shiftRight_eq_div_pow]
    omega
  unfold pairCh
  apply Int32.toBitVec_inj.mp
  apply BitVec.eq_of_toNat_eq
  have f0 : ((0 : Int32) &&& 31) = 0 := by decide
  have f8 : ((8 : Int32) &&& 31) = 8 := by decide
  rw [f0, f8]
  have g : (((lo8 c &&& 255) <<< (0 : Int32)) ||| ((hi8 c &&& 255) <<< (8 : Int32))).toBitVec.toNat = c.toBitVec.toNat := by
    rw [Int32.toBitVec_or, Int32.toBitVec_shiftLeft, Int32.toBitVec_shiftLeft]
    have s0 : ((0 : Int32).toBitVec.smod 32) = 0#32 := by decide
    have s8 : ((8 : Int32).toBitVec.smod 32) = 8#32 := by decide
    rw [s0, s8, BitVec.toNat_or]
    simp only [BitVec.shiftLeft_eq', BitVec.toNat_shiftLeft, a1, a2]
    show (c.toBitVec.toNat % 256) <<< 0 % 2 ^ 32 ||| (c.toBitVec.toNat / 256) <<< 8 % 2 ^ 32 = _
    rw [Nat.shiftLeft_zero, Nat.mod_eq_of_lt (show c.toBitVec.toNat % 256 < 2 ^ 32 by omega), Nat.mod_eq_of_lt (show (c.toBitVec.toNat / 256) <<< 8 < 2 ^ 32 by rw [Nat.shiftLeft_eq]; omega), Nat.or_comm, ← Nat.shiftLeft_add_eq_or_of_lt (by omega), Nat.shiftLeft_eq]
    omega
  show BitVec.toNat (((((lo8 c &&& 255) <<< (0 : Int32)) ||| ((hi8 c &&& 255) <<< (8 : Int32))).toBitVec.setWidth 16).setWidth 32) = _
  rw [BitVec.toNat_setWidth, BitVec.toNat_setWidth, g]
  omega
end StrChars
namespace StrChars
open Jvm Sem ClassFile Op Lib Jvm.Stand Jvm.Free.XT Jvm.Free.ALB Jvm.Free.JM Jvm.Free
open Jvm.Lib.Cold (StaticIs)
theorem shr1 {n : Nat} (h : 2 * n < 2 ^ 31) : Int32.ofNat (2 * n) >>> ((1 : Int32) &&& 31) = Int32.ofNat n := by
  have e : ((1 : Int32) &&& 31) = 1 := by decide
  rw [e]
  apply Int32.toBitVec_inj.mp
  rw [Int32.toBitVec_shiftRight]
  have e1 : ((1 : Int32).toBitVec.smod 32) = 1#32 := by decide
  have hm : (BitVec.ofNat 32 (2 * n)).toNat = 2 * n := by rw [BitVec.toNat_ofNat, Nat.mod_eq_of_lt (by omega)]
  rw [e1, BitVec.sshiftRight_eq']
  apply BitVec.eq_of_toNat_eq
  show ((BitVec.ofNat 32 (2 * n)).sshiftRight 1).toNat = (BitVec.ofNat 32 n).toNat
  rw [BitVec.toNat_sshiftRight_of_msb_false (by rw [BitVec.msb_eq_false_iff_two_mul_lt, hm]; omega), hm, BitVec.toNat_ofNat, Nat.shiftRight_eq_div_pow]
  omega
/-- charAt's cast of a byte read back -/
def chr8 (u : Int32) : Int32 := (u &&& 255).toUInt32.toUInt16.toUInt32.toInt32
theorem chr8_lo8 {c : Int32} (h0 : ¬ c < 0) (h1 : ¬ 255 < c) : chr8 (lo8 c) = c := by
  have t : ∀ k : Fin 256, (Int32.ofNat k.val).toUInt32.toUInt16.toUInt32.toInt32 = Int32.ofNat k.val := by decide +kernel
  unfold chr8
  rw [lo8_mask h0 h1]
  rw [Int32.lt_iff_toInt_lt] at h0 h1
  have e0 : (0 : Int32).toInt = 0 := rfl
  have e1 : (255 : Int32).toInt = 255 := rfl
  obtain ⟨k, hk⟩ : ∃ k : Nat, c.toInt = k := ⟨c.toInt.toNat, by omega⟩
  have hx : c = Int32.ofNat k := Int32.toInt_inj.mp (by rw [hk, Int32.toInt_ofNat_small (by omega)])
  rw [hx]
  exact t ⟨k, by omega⟩
/-- the array's cell V codes the n chars f 0 .. f (n - 1) by the coder cd, as the JDK does: coder 1 just where some char is above 255 -/
def Cod (cd : Int32) (n : Nat) (f : Nat → Int32) (V : Cell) : Prop := (cd = 0 ∧ V.slots.size = n ∧ ∀ j, j < n → V.slots[j]? = some (.int (lo8 (f j))) ∧ ¬ 255 < f j) ∨ (cd = 1 ∧ V.slots.size = 2 * n ∧ (∀ j, j < n → V.slots[2 * j]? = some (.int (lo8 (f j))) ∧ V.slots[2 * j + 1]? = some (.int (hi8 (f j)))) ∧ ∃ j, j < n ∧ 255 < f j)
theorem Cod.cd {cd : Int32} {n : Nat} {f : Nat → Int32} {V : Cell} (h : Cod cd n f V) : cd = 0 ∨ cd = 1 := h.imp (fun q => q.1) fun q => q.1
theorem Cod.len {cd : Int32} {n : Nat} {f : Nat → Int32} {V : Cell} (h : Cod cd n f V) (hs : V.slots.size < 2 ^ 31) : Int32.ofNat V.slots.size >>> (cd &&& 31) = Int32.ofNat n := by
  rcases h with ⟨rfl, h, -⟩ | ⟨rfl, h, -⟩
  · rw [shr0, h]
  · rw [h, shr1 (by omega)]
/-- **x is a String of the n chars f 0 .. f (n - 1)**, Latin-1 or UTF-16; its array at t has the cell V -/
def Txt (x t : Addr) (V : Cell) (cd : Int32) (n : Nat) (f : Nat → Int32) (U : State) : Prop := Exact "java/lang/String" x U ∧ Has x "java/lang/String" "value" "[B" (.ref t) U ∧ Has x "java/lang/String" "coder" "B" (.int cd) U ∧ XT.Arr .byte t V U ∧ Cod cd n f V ∧ ∀ j, j < n → ¬ f j < 0 ∧ ¬ 65535 < f j
theorem Txt.mv {x t : Addr} {V : Cell} {cd : Int32} {n : Nat} {f : Nat → Int32} {U U' : State} (h : Txt x t V cd n f U) (hal : U.vm.Alike U'.vm) (hh : U'.heap = U.heap) : Txt x t V cd n f U' := ⟨h.1.mv hal hh, h.2.1.mv hal hh, h.2.2.1.mv hal hh, h.2.2.2.1.mv hal hh, h.2.2.2.2⟩
namespace Cdr
def yN : MethodName := ⟨"java/lang/String", "coder", "()B"⟩
abbrev yB : ByteArray := jdk_42_method_152_code
theorem d0 : decode yB 0 = .ok (.getstatic 38, 3) := by decide +kernel
theorem d3 : decode yB 3 = .ok (.ifCond (.eq) 10, 3) := by decide +kernel
theorem d6 : decode yB 6 = .ok (.aload_n 0, 1) := by decide +kernel
theorem d7 : decode yB 7 = .ok (.getfield 15, 3) := by decide +kernel
theorem d10 : decode yB 10 = .ok (.goto 4, 3) := by decide +kernel
theorem d14 : decode yB 14 = .ok (.ireturn, 1) := by decide +kernel
def site : List Cond := [.fieldLink "java/lang/String" 38 "java/lang/String" "COMPACT_STRINGS" "Z", .fieldLink "java/lang/String" 15 "java/lang/String" "coder" "B"]
def tab : Cond := tabOf yN yB 1 (some .byte) site
def P (x : Addr) (cd z : Int32) (args : Array Value) (s : State) : Prop := args = #[.ref x] ∧ Has x "java/lang/String" "coder" "B" (.int cd) s ∧ (cd = 0 ∨ cd = 1) ∧ StaticIs s "java/lang/String" "COMPACT_STRINGS" "Z" (.int z) ∧ ¬ z = 0
def E (cd : Int32) (r : Option Value) (s u : State) : Prop := XT.PureE (some (.int cd)) r s u
theorem law (l : Launch) (x : Addr) (cd z : Int32) : Law l yN 1 0 0 0 yB 1 (some .byte) site (P x cd z) (E cd) [] 0 0 := by
  refine Law.of_walk (plainFor_of_name (by decide +kernel)) (by decide +kernel) (by decide +kernel) (by decide) (fun _ _ h => by rw [h.1]; rfl) (fun _ U U' hal hh h => ⟨h.1, h.2.1.mv hal hh, h.2.2.1, h.2.2.2.1.there hal hh, h.2.2.2.2⟩) (fun r U U' V V' h1 hal h2 h => XT.PureE.mv r U U' V V' h1 hal h2 h) ?_
  intro p e s m args below meth c s₁ X0 hexec hbytes hml hret hlk hnm hown hh0 W hP
  obtain ⟨rfl, hx, hc, s1, hz⟩ := hP
  have c1 : Steps p.tables e below (s₁.setTop (entryFrame m #[.ref x] 1)) (s₁.setTop (mkF m 0 #[.val (.ref x)] [])) := entry rfl
  obtain ⟨T2, X2, q2, st2⟩ := X0.sget hexec hown (wk W (.fieldLink "java/lang/String" 38 "java/lang/String" "COMPACT_STRINGS" "Z")) s1 (fun _ _ h => by rw [hh0]; exact h) (g := (mkF m 0 #[.val (.ref x)] [])) rfl (hb hbytes d0)
  have hh2 := q2.trans hh0
  have c3 : Steps p.tables e below (s₁.setTop (entryFrame m #[.ref x] 1)) (T2.setTop (mkF m 7 #[.val (.ref x)] [.ref x])) := (c1.trans (st2 _ (Steps.refl _))).trans (by
    refine XS.ifNo X2.here hexec rfl (hb hbytes d3) rfl (i0_eq_f hz) ?_
    refine XS.aloadN X2.here hexec rfl (hb hbytes d6) rfl rfl ?_
    exact Steps.refl _)
  obtain ⟨T4, X4, q4, st4⟩ := X2.hget hexec hown (wk W (.fieldLink "java/lang/String" 15 "java/lang/String" "coder" "B")) (hx.mv X2.warmed.alike hh2) (g := (mkF m 7 #[.val (.ref x)] [.ref x])) rfl (rest := []) rfl (hb hbytes d7)
  have c5 : Steps p.tables e below (s₁.setTop (entryFrame m #[.ref x] 1)) (T4.setTop (mkF m 14 #[.val (.ref x)] [.int cd])) := (c3.trans (st4 _ (Steps.refl _))).trans (by
    refine XS.goto X4.here hexec rfl (pc0 := 10) rfl (hb hbytes d10) (by decide) rfl ?_
    exact Steps.refl _)
  exact ⟨T4, some (.int cd), _, _, _, X4, rfl, rfl, rfl, (fun h => by cases h), ⟨rfl, q4.trans hh2⟩, fun fs hl => c5.trans (X4.ireturnOut hexec hret (by rcases hc with rfl | rfl <;> rfl) (Or.inr (Or.inr (Or.inl rfl))) (hb hbytes d14) hl)⟩
end Cdr
namespace Len
def yN : MethodName := ⟨"java/lang/String", "length", "()I"⟩
abbrev yB : ByteArray := jdk_42_method_54_code
theorem d0 : decode yB 0 = .ok (.aload_n 0, 1) := by decide +kernel
theorem d1 : decode yB 1 = .ok (.getfield 9, 3) := by decide +kernel
theorem d4 : decode yB 4 = .ok (.arraylength, 1) := by decide +kernel
theorem d5 : decode yB 5 = .ok (.aload_n 0, 1) := by decide +kernel
theorem d6 : decode yB 6 = .ok (.invokevirtual 335, 3) := by decide +kernel
theorem d9 : decode yB 9 = .ok (.ishr, 1) := by decide +kernel
theorem d10 : decode yB 10 = .ok (.ireturn, 1) := by decide +kernel
def site : List Cond := [.fieldLink "java/lang/String" 9 "java/lang/String" "value" "[B", Cdr.tab] ++ virtW "java/lang/String" 335 "java/lang/String" Cdr.yN Cdr.yN
def tab : Cond := tabOf yN yB 1 (some .int) site
def P (x t : Addr) (V : Cell) (cd : Int32) (n : Nat) (f : Nat → Int32) (z : Int32) (args : Array Value) (s : State) : Prop := args = #[.ref x] ∧ Txt x t V cd n f s ∧ StaticIs s "java/lang/String" "COMPACT_STRINGS" "Z" (.int z) ∧ ¬ z = 0
def E (n : Nat) (r : Option Value) (s u : State) : Prop := XT.PureE (some (.int (Int32.ofNat n))) r s u
/-- length() of a String of n chars, in either coding -/
theorem law (l : Launch) (x t : Addr) (V : Cell) (cd : Int32) (n : Nat) (f : Nat → Int32) (z : Int32) : Law l yN 1 0 1 13 yB 1 (some .int) site (P x t V cd n f z) (E n) [] 0 0 := by
  refine Law.of_walk (plainFor_of_name (by decide +kernel)) (by decide +kernel) (by decide +kernel) (by decide) (fun _ _ h => by rw [h.1]; rfl) (fun _ U U' hal hh h => ⟨h.1, h.2.1.mv hal hh, h.2.2.1.there hal hh, h.2.2.2⟩) (fun r U U' V V' h1 hal h2 h => XT.PureE.mv r U U' V V' h1 hal h2 h) ?_
  intro p e s m args below meth c s₁ X0 hexec hbytes hml hret hlk hnm hown hh0 W hP
  obtain ⟨rfl, hx, s1, hz⟩ := hP
  have v31 := hx.2.2.2.1.2.2.2
  have c1 : Steps p.tables e below (s₁.setTop (entryFrame m #[.ref x] 1)) (s₁.setTop (mkF m 1 #[.val (.ref x)] [.ref x])) := Steps.trans (entry rfl) (by
    show Steps p.tables e below (s₁.setTop (mkF m 0 #[.val (.ref x)] [])) _
    refine XS.aloadN X0.here hexec rfl (hb hbytes d0) rfl rfl ?_
    exact Steps.refl _)
  obtain ⟨T2, X2, q2, st2⟩ := X0.hget hexec hown (wk W (.fieldLink "java/lang/String" 9 "java/lang/String" "value" "[B")) (hx.mv X0.warmed.alike hh0).2.1 (g := (mkF m 1 #[.val (.ref x)] [.ref x])) rfl (rest := []) rfl (hb hbytes d1)
  have hh2 := q2.trans hh0
  have hx2 := hx.mv X2.warmed.alike hh2
  have c3 : Steps p.tables e below (s₁.setTop (entryFrame m #[.ref x] 1)) (T2.setTop (mkF m 6 #[.val (.ref x)] [.ref x, .int (Int32.ofNat V.slots.size)])) := (c1.trans (st2 _ (Steps.refl _))).trans (by
    refine X2.alen hexec hx2.2.2.2.1 rfl rfl (hb hbytes d4) ?_
    refine XS.aloadN X2.here hexec rfl (hb hbytes d5) rfl rfl ?_
    exact Steps.refl _)
  obtain ⟨v4, T4, X4, E4, g4⟩ := X2.callV hexec (Cdr.law l x cd z) hown (wks W (virtW "java/lang/String" 335 "java/lang/String" Cdr.yN Cdr.yN)) rfl (by decide) (wk W Cdr.tab) (W := 1) (Nat.le_of_ble_eq_true rfl) (Nat.le_of_ble_eq_true rfl) (Nat.le_refl _) (Nat.le_refl _) (hx2.1.fc X2.warmed.alike) hx2.1.is (g := (mkF m 6 #[.val (.ref x)] [.ref x, .int (Int32.ofNat V.slots.size)])) rfl (by rw [hml]; rfl) c3 (argsL := []) (rest := [.int (Int32.ofNat V.slots.size)]) rfl rfl (by show 2 * 0 + (1 + 0) ≤ _; decide) (hb hbytes d6) (⟨rfl, hx2.2.2.1, hx.2.2.2.2.1.cd, s1.there X2.warmed.alike hh2, hz⟩)
  obtain ⟨rfl, q4⟩ := E4
  have c5 : Steps p.tables e below (s₁.setTop (entryFrame m #[.ref x] 1)) (T4.setTop (mkF m 10 #[.val (.ref x)] [.int (Int32.ofNat V.slots.size >>> (cd &&& 31))])) := Steps.trans g4 (by
    refine ishr X4.here hexec rfl (hb hbytes d9) rfl ?_
    exact Steps.refl _)
  rw [hx.2.2.2.2.1.len v31] at c5
  exact ⟨T4, some (.int (Int32.ofNat n)), _, _, _, X4, rfl, rfl, rfl, (fun h => by cases h), ⟨rfl, q4.trans hh2⟩, fun fs hl => c5.trans (X4.ireturnOut hexec hret rfl (Or.inl rfl) (hb hbytes d10) hl)⟩
theorem pays {l : Launch} {R : Room} {p : Program} {e : Env} {below : List Frame} {s : State} {sargs : Array Value} {len W : Nat} (x t : Addr) (V : Cell) (cd : Int32) (n : Nat) (f : Nat → Int32) (z : Int32) (htab : tab.before sargs s = true) (hfr : 2 ≤ R.frames) (hlo : W + 25 ≤ R.locals) :
    Back l R p e below s sargs yN len W (fun A₁ a₁ => A₁.cells + 0 ≤ R.cells ∧ A₁.slots + 0 ≤ R.slots ∧ P x t V cd n f z a₁ A₁.U) (fun A₁ _ v₁ B₁ => E n v₁ A₁.U B₁.U ∧ B₁.locs = A₁.locs ++ [] ∧ B₁.cells = A₁.cells + 0 ∧ B₁.slots = A₁.slots + 0) :=
  (law l x t V cd n f z).pays htab hfr (by omega)
end Len
end StrChars
namespace StrChars.Road
open Jvm Sem ClassFile Op Lib Jvm.Stand Jvm.Free Jvm.Free.XT
open Jvm.Lib.Cold (StaticIs)
theorem consq {a : Array Value} {s : State} {c : Jvm.Cond} {L : List Jvm.Cond} (h0 : c.before a s = true) (h : ∀ w ∈ L, w.before a s = true) : ∀ w ∈ c :: L, w.before a s = true := fun w hw => (List.mem_cons.mp hw).elim (fun e => e ▸ h0) (h w)
/-- the words of String.length(), either coding -/
abbrev wordsLen : List Jvm.Cond := [.code Len.yN Len.yB 1 (some .int), .initialized ST, .fieldLink ST 9 ST "value" "[B", .fieldLink ST 38 ST "COMPACT_STRINGS" "Z", .fieldLink ST 15 ST "coder" "B", .code Cdr.yN Cdr.yB 1 (some .byte), .methodLink ST 335 Cdr.yN, .declares Cdr.yN, .selects ST Cdr.yN Cdr.yN, .instanceMethod Cdr.yN]
theorem tabLen_of {a : Array Value} {s : State} (h : ∀ w ∈ wordsLen, w.before a s = true) : Len.tab.before a s = true := by
  have hc : Cdr.tab.before a s = true := unparts (wk h (.code Cdr.yN Cdr.yB 1 (some .byte))) (wks h (.initialized Cdr.yN.cls :: Cdr.site))
  have q := consq hc h
  exact unparts (wk q (.code Len.yN Len.yB 1 (some .int))) (wks q (.initialized Len.yN.cls :: Len.site))
theorem movedLen {Z s : State} {a0 args : Array Value} (hZ : Z.Warmed39 s.vm) (hw : ∀ d ∈ wordsLen, d.before a0 Z = true) : ∀ d ∈ wordsLen, d.before args s = true := fun d hd => by
  have q := hw d hd
  have t : ∀ d ∈ wordsLen, d = .arrayClass .byte ∨ (d.onTables && d.keepsFace) = true := by decide +kernel
  rcases t d hd with rfl | t
  · exact RoadKit.mvA hZ q
  · exact RoadKit.mv hZ q t
/-- the bytes of the chars cs, low before high -/
def wideBytes : List Int32 → List Value
  | [] => []
  | c :: cs => .int (lo8 c) :: .int (hi8 c) :: wideBytes cs
theorem wide_lo (d : Value) : ∀ (cs : List Int32) (j : Nat), j < cs.length → (wideBytes cs).getD (2 * j) d = .int (lo8 (cs.getD j 0))
  | [], j, h => absurd h (Nat.not_lt_zero j)
  | c :: cs, 0, _ => rfl
  | c :: cs, j + 1, h => by
    have q := wide_lo d cs j (by simpa using h)
    rw [show 2 * (j + 1) = 2 * j + 1 + 1 from by omega]
    simpa [wideBytes] using q
theorem wide_hi (d : Value) : ∀ (cs : List Int32) (j : Nat), j < cs.length → (wideBytes cs).getD (2 * j + 1) d = .int (hi8 (cs.getD j 0))
  | [], j, h => absurd h (Nat.not_lt_zero j)
  | c :: cs, 0, _ => rfl
  | c :: cs, j + 1, h => by
    have q := wide_hi d cs j (by simpa using h)
    rw [show 2 * (j + 1) + 1 = 2 * j + 1 + 1 + 1 from by omega]
    simpa [wideBytes] using q
theorem low_at (d : Value) (cs : List Int32) (j : Nat) (h : j < cs.length) : (cs.map fun c => Value.int (lo8 c)).getD j d = .int (lo8 (cs.getD j 0)) := by
  simp [List.getD_eq_getElem?_getD, h]
/-- an array of N2 bytes vs codes the chars cs by the coder cd -/
def CodA (cs : List Int32) (cd N2 : Int32) (vs : List Value) : Prop := (cd = 0 ∧ N2 = Int32.ofNat cs.length ∧ vs = (cs.map fun c => Value.int (lo8 c)) ∧ ∀ c ∈ cs, ¬ 255 < c) ∨ (cd = 1 ∧ N2 = Int32.ofNat (2 * cs.length) ∧ vs = wideBytes cs ∧ ∃ c ∈ cs, 255 < c)
theorem CodA.cod {cs : List Int32} {cd N2 : Int32} {vs : List Value} {V : Cell} (h : CodA cs cd N2 vs) (hn : 2 * cs.length < 2 ^ 31) (hs : V.slots.size = N2.toNatClampNeg) (hv : RoadKit.Has V vs (.int 0)) : Cod cd cs.length (fun j => cs.getD j 0) V := by
  rcases h with ⟨rfl, rfl, rfl, h⟩ | ⟨rfl, rfl, rfl, c, hc, hw⟩
  · rw [n32 (by omega)] at hs
    exact Or.inl ⟨rfl, hs, fun j hj => ⟨by rw [hv j (by omega), low_at _ _ _ hj], by
      have e : cs.getD j 0 = cs[j] := by simp [List.getD_eq_getElem?_getD, hj]
      show ¬ 255 < cs.getD j 0
      rw [e]; exact h _ (List.getElem_mem _)⟩⟩
  · rw [n32 (by omega)] at hs
    obtain ⟨j, hj, rfl⟩ := List.getElem_of_mem hc
    exact Or.inr ⟨rfl, hs, fun j hj => ⟨by rw [hv _ (by omega), wide_lo _ _ _ hj], by rw [hv _ (by omega), wide_hi _ _ _ hj]⟩, j, hj, by
      have e : cs.getD j 0 = cs[j] := by simp [List.getD_eq_getElem?_getD, hj]
      show 255 < cs.getD j 0
      rw [e]; exact hw⟩
/-- an object of exactly java/lang/String, its two fields found: as the laws ask it -/
theorem strObj {Z U : State} {a0 : Array Value} {kI : Nat} (wi : (Jvm.Cond.instantiable ST kI).before a0 Z = true) (al : Z.vm.Alike U.vm) {x : Addr} {v0 c0 : Value} (E : RoadKit.Exa Z U.heap x ST) (V : RoadKit.Fld Z U.heap x ST "value" "[B" v0) (C : RoadKit.Fld Z U.heap x ST "coder" "B" c0) :
    ∃ (D : Cell) (fV fC : Field), Blank ST x D U ∧ Found ST "value" "[B" fV U ∧ Found ST "coder" "B" fC U ∧ D.slots[fV.slot]? = some v0 ∧ D.slots[fC.slot]? = some c0 ∧ RoadKit.slotOf Z ST "value" "[B" = fV.slot ∧ RoadKit.slotOf Z ST "coder" "B" = fC.slot := by
  obtain ⟨D, cfV, kV, iV, fV, hD, gV, stV, knV, obV, asV, slV⟩ := V
  obtain ⟨D', cfC, kC, iC, fC, hD', gC, stC, -, -, asC, slC⟩ := C
  cases hD.symm.trans hD'
  obtain ⟨D2, kD, e1, e2, e3, e4, e5⟩ := E
  cases hD.symm.trans e1
  obtain ⟨c2, k2, i1, i2, i3, -⟩ := Cond.instantiable_spec wi
  cases e2.symm.trans i1
  cases e3.symm.trans i2
  obtain ⟨kU, u1, u2⟩ := al.2.2 _ _ e3
  exact ⟨D, fV, fC, ⟨hD, ⟨knV, fun q hq => by rw [hq] at obV; cases obV⟩, by rw [al.findClass]; exact e2, kU, u1, by rw [u2]; exact i3, by rw [u2]; exact e5 i3⟩, ⟨SBG.found_only al ⟨cfV, kV, iV, gV⟩, stV⟩, ⟨SBG.found_only al ⟨cfC, kC, iC, gC⟩, stC⟩, slV, slC, by simp [RoadKit.slotOf, gV], by simp [RoadKit.slotOf, gC]⟩
theorem sta_is {Z U : State} (al : Z.vm.Alike U.vm) {C n d : String} {v : Value} (S : RoadKit.Sta Z U.heap C n d v) : StaticIs U C n d v := by
  obtain ⟨cfS, iS, kS, fS, st, cS, t1, t2, t3, t4, t5, t6, t7⟩ := S
  exact StaticIs.there (s := { Z with heap := U.heap }) ⟨cfS, iS, kS, fS, st, cS, t1, t2, t3, t4, t5, (fun q => by rw [q] at t6; cases t6), t7⟩ al rfl
/-- **length() OF SUCH A STRING** -/
theorem lenW {p : Program} {l : Launch} {e : Env} {R : Room} {s : State} {args : Array Value} {below : List Frame} {len W : Nat} {Z : State} {a0 : Array Value} {h : Heap} (hZ : Z.Warmed39 s.vm) (hw : ∀ d ∈ wordsLen, d.before a0 Z = true) {kI : Nat} (wi : (Jvm.Cond.instantiable ST kI).before a0 Z = true)
    {x t : Addr} {kb : ClassId} {cs : List Int32} {cd N2 z : Int32} {vs : List Value} (E : RoadKit.Exa Z h x ST) (V : RoadKit.Fld Z h x ST "value" "[B" (.ref t)) (C : RoadKit.Fld Z h x ST "coder" "B" (.int cd)) (K : RoadKit.Arv Z h t kb .byte N2 vs (.int 0)) (hc : CodA cs cd N2 vs) (hb : ∀ c ∈ cs, ¬ c < 0 ∧ ¬ (65535 : Int32) < c)
    (S : RoadKit.Sta Z h ST "COMPACT_STRINGS" "Z" (.int z)) (hz : ¬ z = 0) (l2 : cs.length ≤ 4000) (hfr : 2 ≤ R.frames) (hlo : W + 25 ≤ R.locals) :
    Back l R p e below s args (⟨"java/lang/String", "length", "()I"⟩ : MethodName) len W (fun P a => a = #[.ref x] ∧ P.U.heap = h ∧ P.cells + 0 ≤ R.cells ∧ P.slots + 0 ≤ R.slots)
      (fun P _ v B => ∃ L, (v = some (.int (Int32.ofNat cs.length)) ∧ L = [] ∧ B.U.heap = h) ∧ B.locs = P.locs ++ L ∧ B.cells = P.cells + 0 ∧ B.slots = P.slots + 0) := by
  obtain ⟨A, K1, K2, K3, K4, K5, K6⟩ := K
  have hcod := hc.cod (by omega) K3 K5
  intro m meth c P g ig mk a X hg hsize hdg hW hn hp'
  obtain ⟨rfl, rfl, r1, r2⟩ := hp'
  have al : Z.vm.Alike P.U.vm := hZ.alike.trans X.warmed.alike
  obtain ⟨D, fV, fC, hB, F1, F2, g1, g2, -, -⟩ := strObj wi al E V C
  have hx : Txt x t A cd cs.length (fun j => cs.getD j 0) P.U := ⟨⟨_, hB.2.2.1, D, hB.1, rfl, by cases q : D.vm <;> first | rfl | exact absurd q (hB.2.1.2 _)⟩, Has.of hB F1 g1, Has.of hB F2 g2, ⟨K1.1, State.isArrayOf_alike al K1.2.1, K1.2.2, by rcases hcod with ⟨-, q, -⟩ | ⟨-, q, -⟩ <;> omega⟩, hcod, fun j hj => by
    have e : cs.getD j 0 = cs[j] := by simp [List.getD_eq_getElem?_getD, hj]
    show ¬ cs.getD j 0 < 0 ∧ ¬ 65535 < cs.getD j 0
    rw [e]; exact hb _ (List.getElem_mem _)⟩
  obtain ⟨v, B, X', ⟨⟨hv, hh⟩, hl, hk, hs⟩, st⟩ := Len.pays x t A cd cs.length (fun j => cs.getD j 0) z (tabLen_of (movedLen hZ hw)) hfr hlo m meth c P g ig mk _ X hg hsize hdg hW hn ⟨r1, r2, rfl, hx, sta_is al S, hz⟩
  exact ⟨v, B, X', ⟨[], ⟨hv, rfl, hh⟩, hl, hk, hs⟩, st⟩
end StrChars.Road
namespace StrChars
open Jvm Sem ClassFile Op Lib Jvm.Stand Jvm.Free.XT Jvm.Free.ALB Jvm.Free.JM Jvm.Free
open Jvm.Lib.Cold (StaticIs)
theorem lo8_inj {x y : Int32} (h0 : ¬ x < 0) (h1 : ¬ 255 < x) (k0 : ¬ y < 0) (k1 : ¬ 255 < y) (h : lo8 x = lo8 y) : x = y := by
  rw [← lo8_mask h0 h1, ← lo8_mask k0 k1, h]
end StrChars
namespace StrChars.Road
open Jvm Sem ClassFile Op Lib Jvm.Stand Jvm.Free Jvm.Free.XT
open Jvm.Lib.Cold (StaticIs)
/-- what backV says of its String, as the contracts of this text ask it: cs's low bytes, coder 0 -/
theorem codOf {cs : List Int32} {n : Nat} (hn : cs.length = n) (hb : ∀ c ∈ cs, ¬ 255 < c) : CodA cs 0 (Int32.ofNat n) ((cs.map lo8).map Value.int) := Or.inl ⟨rfl, by rw [hn], by simp [List.map_map, Function.comp_def], hb⟩
end StrChars.Road
end Jvm.Pilot.@@N@@
namespace Jvm.Pilot.@@N@@
open Jvm Jvm.ClassFile Sem Op Lib Jvm.Free Jvm.Stand Jvm.LawKit Jvm.RoadKit Bundle Jvm.Pilot.@@N@@.Jvm.D
/-- the run from S on comes to an end of which G holds -/
def Go (p : Program) (e : Env) (below : List Frame) (G : Outcome → State → Prop) (S : State) : Prop := ∃ s₂ o, Steps p.tables e below S s₂ ∧ s₂.status = .running ∧ Ended s₂ below o ∧ G o s₂
theorem Go.mono {p : Program} {e : Env} {below : List Frame} {G : Outcome → State → Prop} {S S' : State} (st : ∀ t, Steps p.tables e below S' t → Steps p.tables e below S t) (h : Go p e below G S') : Go p e below G S := by
  obtain ⟨a, b, c, d⟩ := h; exact ⟨a, b, st _ c, d⟩
/-- where a walk stands: the method's own facts, the heap, and an invariant I over the tables' state and the heap -/
def Wk (p : Program) (l : Launch) (e : Env) (R : Room) (m : MethodId) (args : Array Value) (below : List Frame) (meth : Method) (c : Code) (own : String) (bytes : ByteArray) (maxL : Nat) (Z : State) (I : State → Heap → Prop) (s' T : State) (locs : List Loc) (cells slots : Nat) (h : Heap) : Prop :=
  Stand p l e R s' m args below meth c T locs cells slots ∧ T.heap = h ∧ Z.Warmed39 s'.vm ∧ s'.vm.findClass own = some m.cls ∧ p.tables.exec = Jvm.exec ∧ c.code = bytes ∧ c.maxLocals = maxL ∧ I s' h
section Walk
variable {p : Program} {l : Launch} {e : Env} {R : Room} {m : MethodId} {args : Array Value} {below : List Frame} {meth : Method} {c : Code} {own : String} {bytes : ByteArray} {maxL : Nat} {Z : State} {I : State → Heap → Prop} {s' T : State} {locs : List Loc} {cells slots : Nat} {h : Heap} {G : Outcome → State → Prop} {pc : Nat} {Ls : Array Slot} {S : List Value} {a0 : Array Value}
theorem Wk.st (D : Wk p l e R m args below meth c own bytes maxL Z I s' T locs cells slots h) : Stand p l e R s' m args below meth c T locs cells slots := D.1
theorem Wk.eq (D : Wk p l e R m args below meth c own bytes maxL Z I s' T locs cells slots h) : T.heap = h := D.2.1
theorem Wk.wm (D : Wk p l e R m args below meth c own bytes maxL Z I s' T locs cells slots h) : Z.Warmed39 s'.vm := D.2.2.1
theorem Wk.ow (D : Wk p l e R m args below meth c own bytes maxL Z I s' T locs cells slots h) : s'.vm.findClass own = some m.cls := D.2.2.2.1
theorem Wk.ex (D : Wk p l e R m args below meth c own bytes maxL Z I s' T locs cells slots h) : p.tables.exec = Jvm.exec := D.2.2.2.2.1
theorem Wk.cb (D : Wk p l e R m args below meth c own bytes maxL Z I s' T locs cells slots h) : c.code = bytes := D.2.2.2.2.2.1
theorem Wk.ml (D : Wk p l e R m args below meth c own bytes maxL Z I s' T locs cells slots h) : c.maxLocals = maxL := D.2.2.2.2.2.2.1
theorem Wk.iv (D : Wk p l e R m args below meth c own bytes maxL Z I s' T locs cells slots h) : I s' h := D.2.2.2.2.2.2.2
theorem Wk.more (D : Wk p l e R m args below meth c own bytes maxL Z I s' T locs cells slots h) {k n : Nat} (hc : cells ≤ k) (hs : slots ≤ n) : Wk p l e R m args below meth c own bytes maxL Z I s' T locs k n h := ⟨D.1.more hc hs, D.2⟩
theorem Wk.mk' {T' : State} {locs' : List Loc} {cells' slots' : Nat} {h' : Heap} (D : Wk p l e R m args below meth c own bytes maxL Z I s' T locs cells slots h) (X : Stand p l e R s' m args below meth c T' locs' cells' slots') (q : T'.heap = h') (i : I s' h') : Wk p l e R m args below meth c own bytes maxL Z I s' T' locs' cells' slots' h' := ⟨X, q, D.wm, D.ow, D.ex, D.cb, D.ml, i⟩
theorem g_aloadN (D : Wk p l e R m args below meth c own bytes maxL Z I s' T locs cells slots h) (pc' : Nat) {k : Fin 4} {v : Value} (hd : decode bytes pc = .ok (.aload_n k, 1)) (hl : Ls[k.val]? = some (.val v)) (hv : v.isRef = true) (hp : pc + 1 = pc') (hr : Go p e below G (T.setTop (mkF m pc' Ls (v :: S)))) : Go p e below G (T.setTop (mkF m pc Ls S)) := by
  subst hp; exact Go.mono (fun t k => XS.aloadN D.st.here D.ex rfl (hb D.cb hd) hl hv k) hr
theorem g_aload (D : Wk p l e R m args below meth c own bytes maxL Z I s' T locs cells slots h) (pc' : Nat) {k : Nat} {v : Value} (hd : decode bytes pc = .ok (.aload k, 2)) (hl : Ls[k]? = some (.val v)) (hv : v.isRef = true) (hp : pc + 2 = pc') (hr : Go p e below G (T.setTop (mkF m pc' Ls (v :: S)))) : Go p e below G (T.setTop (mkF m pc Ls S)) := by
  subst hp; exact Go.mono (fun t k => XS.aload D.st.here D.ex rfl (hb D.cb hd) hl hv k) hr
theorem g_iloadN (D : Wk p l e R m args below meth c own bytes maxL Z I s' T locs cells slots h) (pc' : Nat) {k : Fin 4} {v : Int32} (hd : decode bytes pc = .ok (.iload_n k, 1)) (hl : Ls[k.val]? = some (.val (.int v))) (hp : pc + 1 = pc') (hr : Go p e below G (T.setTop (mkF m pc' Ls (.int v :: S)))) : Go p e below G (T.setTop (mkF m pc Ls S)) := by
  subst hp; exact Go.mono (fun t k => XS.iloadN D.st.here D.ex rfl (hb D.cb hd) hl k) hr
theorem g_iload (D : Wk p l e R m args below meth c own bytes maxL Z I s' T locs cells slots h) (pc' : Nat) {k : Nat} {v : Int32} (hd : decode bytes pc = .ok (.iload k, 2)) (hl : Ls[k]? = some (.val (.int v))) (hp : pc + 2 = pc') (hr : Go p e below G (T.setTop (mkF m pc' Ls (.int v :: S)))) : Go p e below G (T.setTop (mkF m pc Ls S)) := by
  subst hp; exact Go.mono (fun t k => XS.iload D.st.here D.ex rfl (hb D.cb hd) hl k) hr
theorem g_lloadN (D : Wk p l e R m args below meth c own bytes maxL Z I s' T locs cells slots h) (pc' : Nat) {k : Fin 4} {v : Int64} (hd : decode bytes pc = .ok (.lload_n k, 1)) (hl : Ls[k.val]? = some (.val (.long v))) (hp : pc + 1 = pc') (hr : Go p e below G (T.setTop (mkF m pc' Ls (.long v :: S)))) : Go p e below G (T.setTop (mkF m pc Ls S)) := by
  subst hp; exact Go.mono (fun t k => XS.lloadN D.st.here D.ex rfl (hb D.cb hd) hl k) hr
theorem g_lload (D : Wk p l e R m args below meth c own bytes maxL Z I s' T locs cells slots h) (pc' : Nat) {k : Nat} {v : Int64} (hd : decode bytes pc = .ok (.lload k, 2)) (hl : Ls[k]? = some (.val (.long v))) (hp : pc + 2 = pc') (hr : Go p e below G (T.setTop (mkF m pc' Ls (.long v :: S)))) : Go p e below G (T.setTop (mkF m pc Ls S)) := by
  subst hp; exact Go.mono (fun t k => XS.lload D.st.here D.ex rfl (hb D.cb hd) hl k) hr
theorem g_istoreN (D : Wk p l e R m args below meth c own bytes maxL Z I s' T locs cells slots h) (pc' : Nat) {k : Fin 4} {x : Int32} (l' : Array Slot) (hd : decode bytes pc = .ok (.istore_n k, 1)) (hl : storeLocals Ls k.val (.int x) = some l') (hp : pc + 1 = pc') (hr : Go p e below G (T.setTop (mkF m pc' l' S))) : Go p e below G (T.setTop (mkF m pc Ls (.int x :: S))) := by
  subst hp; exact Go.mono (fun t k => XS.istoreN D.st.here D.ex rfl (hb D.cb hd) rfl hl k) hr
theorem g_istore (D : Wk p l e R m args below meth c own bytes maxL Z I s' T locs cells slots h) (pc' : Nat) {k : Nat} {x : Int32} (l' : Array Slot) (hd : decode bytes pc = .ok (.istore k, 2)) (hl : storeLocals Ls k (.int x) = some l') (hp : pc + 2 = pc') (hr : Go p e below G (T.setTop (mkF m pc' l' S))) : Go p e below G (T.setTop (mkF m pc Ls (.int x :: S))) := by
  subst hp; exact Go.mono (fun t k => XS.istore D.st.here D.ex rfl (hb D.cb hd) rfl hl k) hr
theorem g_lstoreN (D : Wk p l e R m args below meth c own bytes maxL Z I s' T locs cells slots h) (pc' : Nat) {k : Fin 4} {x : Int64} (l' : Array Slot) (hd : decode bytes pc = .ok (.lstore_n k, 1)) (hl : storeLocals Ls k.val (.long x) = some l') (hp : pc + 1 = pc') (hr : Go p e below G (T.setTop (mkF m pc' l' S))) : Go p e below G (T.setTop (mkF m pc Ls (.long x :: S))) := by
  subst hp; exact Go.mono (fun t k => XS.lstoreN D.st.here D.ex rfl (hb D.cb hd) rfl hl k) hr
theorem g_lstore (D : Wk p l e R m args below meth c own bytes maxL Z I s' T locs cells slots h) (pc' : Nat) {k : Nat} {x : Int64} (l' : Array Slot) (hd : decode bytes pc = .ok (.lstore k, 2)) (hl : storeLocals Ls k (.long x) = some l') (hp : pc + 2 = pc') (hr : Go p e below G (T.setTop (mkF m pc' l' S))) : Go p e below G (T.setTop (mkF m pc Ls (.long x :: S))) := by
  subst hp; exact Go.mono (fun t k => XS.lstore D.st.here D.ex rfl (hb D.cb hd) rfl hl k) hr
theorem g_astoreN (D : Wk p l e R m args below meth c own bytes maxL Z I s' T locs cells slots h) (pc' : Nat) {k : Fin 4} {x : Value} (l' : Array Slot) (hd : decode bytes pc = .ok (.astore_n k, 1)) (hv : x.isRef = true) (hl : storeLocals Ls k.val x = some l') (hp : pc + 1 = pc') (hr : Go p e below G (T.setTop (mkF m pc' l' S))) : Go p e below G (T.setTop (mkF m pc Ls (x :: S))) := by
  subst hp; exact Go.mono (fun t k => XS.astoreN D.st.here D.ex rfl (hb D.cb hd) rfl hv hl k) hr
theorem g_astore (D : Wk p l e R m args below meth c own bytes maxL Z I s' T locs cells slots h) (pc' : Nat) {k : Nat} {x : Value} (l' : Array Slot) (hd : decode bytes pc = .ok (.astore k, 2)) (hv : x.isRef = true) (hl : storeLocals Ls k x = some l') (hp : pc + 2 = pc') (hr : Go p e below G (T.setTop (mkF m pc' l' S))) : Go p e below G (T.setTop (mkF m pc Ls (x :: S))) := by
  subst hp; exact Go.mono (fun t k => XS.astore D.st.here D.ex rfl (hb D.cb hd) rfl hv hl k) hr
theorem g_iconst (D : Wk p l e R m args below meth c own bytes maxL Z I s' T locs cells slots h) (pc' : Nat) {i : Int} (v : Int32) (hd : decode bytes pc = .ok (.iconst i, 1)) (hv : Int32.ofInt i = v) (hp : pc + 1 = pc') (hr : Go p e below G (T.setTop (mkF m pc' Ls (.int v :: S)))) : Go p e below G (T.setTop (mkF m pc Ls S)) := by
  subst hp; subst hv; exact Go.mono (fun t k => XS.iconst D.st.here D.ex rfl (hb D.cb hd) k) hr
theorem g_bipush (D : Wk p l e R m args below meth c own bytes maxL Z I s' T locs cells slots h) (pc' : Nat) {i : Int} (v : Int32) (hd : decode bytes pc = .ok (.bipush i, 2)) (hv : (Int8.ofInt i).toInt32 = v) (hp : pc + 2 = pc') (hr : Go p e below G (T.setTop (mkF m pc' Ls (.int v :: S)))) : Go p e below G (T.setTop (mkF m pc Ls S)) := by
  subst hp; subst hv; exact Go.mono (fun t k => XS.bipush D.st.here D.ex rfl (hb D.cb hd) k) hr
theorem g_sipush (D : Wk p l e R m args below meth c own bytes maxL Z I s' T locs cells slots h) (pc' : Nat) {i : Int} (v : Int32) (hd : decode bytes pc = .ok (.sipush i, 3)) (hv : (Int16.ofInt i).toInt32 = v) (hp : pc + 3 = pc') (hr : Go p e below G (T.setTop (mkF m pc' Ls (.int v :: S)))) : Go p e below G (T.setTop (mkF m pc Ls S)) := by
  subst hp; subst hv; exact Go.mono (fun t k => XS.sipush D.st.here D.ex rfl (hb D.cb hd) k) hr
theorem g_lconst (D : Wk p l e R m args below meth c own bytes maxL Z I s' T locs cells slots h) (pc' : Nat) {i : Fin 2} (v : Int64) (hd : decode bytes pc = .ok (.lconst i, 1)) (hv : Int64.ofNat i = v) (hp : pc + 1 = pc') (hr : Go p e below G (T.setTop (mkF m pc' Ls (.long v :: S)))) : Go p e below G (T.setTop (mkF m pc Ls S)) := by
  subst hp; subst hv; exact Go.mono (fun t k => XS.lconst D.st.here D.ex rfl (hb D.cb hd) k) hr
theorem g_aconst (D : Wk p l e R m args below meth c own bytes maxL Z I s' T locs cells slots h) (pc' : Nat)  (hd : decode bytes pc = .ok (.aconst_null, 1)) (hp : pc + 1 = pc') (hr : Go p e below G (T.setTop (mkF m pc' Ls (.null :: S)))) : Go p e below G (T.setTop (mkF m pc Ls S)) := by
  subst hp; exact Go.mono (fun t k => XS.aconstNull D.st.here D.ex rfl (hb D.cb hd)  k) hr
theorem g_iadd (D : Wk p l e R m args below meth c own bytes maxL Z I s' T locs cells slots h) (pc' : Nat) {x y : Int32} (hd : decode bytes pc = .ok (.iadd, 1)) (hp : pc + 1 = pc') (hr : Go p e below G (T.setTop (mkF m pc' Ls (.int (x + y) :: S)))) : Go p e below G (T.setTop (mkF m pc Ls (.int y :: .int x :: S))) := by
  subst hp; exact Go.mono (fun t k => XS.iadd D.st.here D.ex rfl (hb D.cb hd) rfl k) hr
theorem g_isub (D : Wk p l e R m args below meth c own bytes maxL Z I s' T locs cells slots h) (pc' : Nat) {x y : Int32} (hd : decode bytes pc = .ok (.isub, 1)) (hp : pc + 1 = pc') (hr : Go p e below G (T.setTop (mkF m pc' Ls (.int (x - y) :: S)))) : Go p e below G (T.setTop (mkF m pc Ls (.int y :: .int x :: S))) := by
  subst hp; exact Go.mono (fun t k => XS.isub D.st.here D.ex rfl (hb D.cb hd) rfl k) hr
theorem g_imul (D : Wk p l e R m args below meth c own bytes maxL Z I s' T locs cells slots h) (pc' : Nat) {x y : Int32} (hd : decode bytes pc = .ok (.imul, 1)) (hp : pc + 1 = pc') (hr : Go p e below G (T.setTop (mkF m pc' Ls (.int (x * y) :: S)))) : Go p e below G (T.setTop (mkF m pc Ls (.int y :: .int x :: S))) := by
  subst hp; exact Go.mono (fun t k => XS.imul D.st.here D.ex rfl (hb D.cb hd) rfl k) hr
theorem g_iand (D : Wk p l e R m args below meth c own bytes maxL Z I s' T locs cells slots h) (pc' : Nat) {x y : Int32} (hd : decode bytes pc = .ok (.iand, 1)) (hp : pc + 1 = pc') (hr : Go p e below G (T.setTop (mkF m pc' Ls (.int (x &&& y) :: S)))) : Go p e below G (T.setTop (mkF m pc Ls (.int y :: .int x :: S))) := by
  subst hp; exact Go.mono (fun t k => XS.iand D.st.here D.ex rfl (hb D.cb hd) rfl k) hr
theorem g_ior (D : Wk p l e R m args below meth c own bytes maxL Z I s' T locs cells slots h) (pc' : Nat) {x y : Int32} (hd : decode bytes pc = .ok (.ior, 1)) (hp : pc + 1 = pc') (hr : Go p e below G (T.setTop (mkF m pc' Ls (.int (x ||| y) :: S)))) : Go p e below G (T.setTop (mkF m pc Ls (.int y :: .int x :: S))) := by
  subst hp; exact Go.mono (fun t k => XS.ior D.st.here D.ex rfl (hb D.cb hd) rfl k) hr
theorem g_ixor (D : Wk p l e R m args below meth c own bytes maxL Z I s' T locs cells slots h) (pc' : Nat) {x y : Int32} (hd : decode bytes pc = .ok (.ixor, 1)) (hp : pc + 1 = pc') (hr : Go p e below G (T.setTop (mkF m pc' Ls (.int (x ^^^ y) :: S)))) : Go p e below G (T.setTop (mkF m pc Ls (.int y :: .int x :: S))) := by
  subst hp; exact Go.mono (fun t k => XS.ixor D.st.here D.ex rfl (hb D.cb hd) rfl k) hr
theorem g_ishl (D : Wk p l e R m args below meth c own bytes maxL Z I s' T locs cells slots h) (pc' : Nat) {x y : Int32} (hd : decode bytes pc = .ok (.ishl, 1)) (hp : pc + 1 = pc') (hr : Go p e below G (T.setTop (mkF m pc' Ls (.int (x <<< (y &&& 31)) :: S)))) : Go p e below G (T.setTop (mkF m pc Ls (.int y :: .int x :: S))) := by
  subst hp; exact Go.mono (fun t k => XS.ishl D.st.here D.ex rfl (hb D.cb hd) rfl k) hr
theorem g_ishr (D : Wk p l e R m args below meth c own bytes maxL Z I s' T locs cells slots h) (pc' : Nat) {x y : Int32} (hd : decode bytes pc = .ok (.ishr, 1)) (hp : pc + 1 = pc') (hr : Go p e below G (T.setTop (mkF m pc' Ls (.int (x >>> (y &&& 31)) :: S)))) : Go p e below G (T.setTop (mkF m pc Ls (.int y :: .int x :: S))) := by
  subst hp; exact Go.mono (fun t k => XS.ishr D.st.here D.ex rfl (hb D.cb hd) rfl k) hr
theorem g_iushr (D : Wk p l e R m args below meth c own bytes maxL Z I s' T locs cells slots h) (pc' : Nat) {x y : Int32} (hd : decode bytes pc = .ok (.iushr, 1)) (hp : pc + 1 = pc') (hr : Go p e below G (T.setTop (mkF m pc' Ls (.int (XT.ushr x y) :: S)))) : Go p e below G (T.setTop (mkF m pc Ls (.int y :: .int x :: S))) := by
  subst hp; exact Go.mono (fun t k => XT.iushr D.st.here D.ex rfl (hb D.cb hd) rfl k) hr
theorem g_ladd (D : Wk p l e R m args below meth c own bytes maxL Z I s' T locs cells slots h) (pc' : Nat) {x y : Int64} (hd : decode bytes pc = .ok (.ladd, 1)) (hp : pc + 1 = pc') (hr : Go p e below G (T.setTop (mkF m pc' Ls (.long (x + y) :: S)))) : Go p e below G (T.setTop (mkF m pc Ls (.long y :: .long x :: S))) := by
  subst hp; exact Go.mono (fun t k => XS.ladd D.st.here D.ex rfl (hb D.cb hd) rfl k) hr
theorem g_lsub (D : Wk p l e R m args below meth c own bytes maxL Z I s' T locs cells slots h) (pc' : Nat) {x y : Int64} (hd : decode bytes pc = .ok (.lsub, 1)) (hp : pc + 1 = pc') (hr : Go p e below G (T.setTop (mkF m pc' Ls (.long (x - y) :: S)))) : Go p e below G (T.setTop (mkF m pc Ls (.long y :: .long x :: S))) := by
  subst hp; exact Go.mono (fun t k => XS.lsub D.st.here D.ex rfl (hb D.cb hd) rfl k) hr
theorem g_lmul (D : Wk p l e R m args below meth c own bytes maxL Z I s' T locs cells slots h) (pc' : Nat) {x y : Int64} (hd : decode bytes pc = .ok (.lmul, 1)) (hp : pc + 1 = pc') (hr : Go p e below G (T.setTop (mkF m pc' Ls (.long (x * y) :: S)))) : Go p e below G (T.setTop (mkF m pc Ls (.long y :: .long x :: S))) := by
  subst hp; exact Go.mono (fun t k => XS.lmul D.st.here D.ex rfl (hb D.cb hd) rfl k) hr
theorem g_land (D : Wk p l e R m args below meth c own bytes maxL Z I s' T locs cells slots h) (pc' : Nat) {x y : Int64} (hd : decode bytes pc = .ok (.land, 1)) (hp : pc + 1 = pc') (hr : Go p e below G (T.setTop (mkF m pc' Ls (.long (x &&& y) :: S)))) : Go p e below G (T.setTop (mkF m pc Ls (.long y :: .long x :: S))) := by
  subst hp; exact Go.mono (fun t k => XS.land D.st.here D.ex rfl (hb D.cb hd) rfl k) hr
theorem g_lor (D : Wk p l e R m args below meth c own bytes maxL Z I s' T locs cells slots h) (pc' : Nat) {x y : Int64} (hd : decode bytes pc = .ok (.lor, 1)) (hp : pc + 1 = pc') (hr : Go p e below G (T.setTop (mkF m pc' Ls (.long (x ||| y) :: S)))) : Go p e below G (T.setTop (mkF m pc Ls (.long y :: .long x :: S))) := by
  subst hp; exact Go.mono (fun t k => XS.lor D.st.here D.ex rfl (hb D.cb hd) rfl k) hr
theorem g_lxor (D : Wk p l e R m args below meth c own bytes maxL Z I s' T locs cells slots h) (pc' : Nat) {x y : Int64} (hd : decode bytes pc = .ok (.lxor, 1)) (hp : pc + 1 = pc') (hr : Go p e below G (T.setTop (mkF m pc' Ls (.long (x ^^^ y) :: S)))) : Go p e below G (T.setTop (mkF m pc Ls (.long y :: .long x :: S))) := by
  subst hp; exact Go.mono (fun t k => XS.lxor D.st.here D.ex rfl (hb D.cb hd) rfl k) hr
theorem g_lushr (D : Wk p l e R m args below meth c own bytes maxL Z I s' T locs cells slots h) (pc' : Nat) {x : Int64} {y : Int32} (hd : decode bytes pc = .ok (.lushr, 1)) (hp : pc + 1 = pc') (hr : Go p e below G (T.setTop (mkF m pc' Ls (.long (XT.ushrL x y) :: S)))) : Go p e below G (T.setTop (mkF m pc Ls (.int y :: .long x :: S))) := by
  subst hp; exact Go.mono (fun t k => XT.lushr D.st.here D.ex rfl (hb D.cb hd) rfl k) hr
theorem g_lshl (D : Wk p l e R m args below meth c own bytes maxL Z I s' T locs cells slots h) (pc' : Nat) {x : Int64} {y : Int32} (hd : decode bytes pc = .ok (.lshl, 1)) (hp : pc + 1 = pc') (hr : Go p e below G (T.setTop (mkF m pc' Ls (.long (x <<< (y.toInt64 &&& 63)) :: S)))) : Go p e below G (T.setTop (mkF m pc Ls (.int y :: .long x :: S))) := by
  subst hp; exact Go.mono (fun t k => XT.lshl D.st.here D.ex rfl (hb D.cb hd) rfl k) hr
theorem g_lcmp (D : Wk p l e R m args below meth c own bytes maxL Z I s' T locs cells slots h) (pc' : Nat) {x y : Int64} (hd : decode bytes pc = .ok (.lcmp, 1)) (hp : pc + 1 = pc') (hr : Go p e below G (T.setTop (mkF m pc' Ls (.int (XT.cmpL x y) :: S)))) : Go p e below G (T.setTop (mkF m pc Ls (.long y :: .long x :: S))) := by
  subst hp; exact Go.mono (fun t k => XT.lcmp D.st.here D.ex rfl (hb D.cb hd) rfl k) hr
theorem g_idiv (D : Wk p l e R m args below meth c own bytes maxL Z I s' T locs cells slots h) (pc' : Nat) {x y : Int32} (hd : decode bytes pc = .ok (.idiv, 1)) (hy : y ≠ 0) (hp : pc + 1 = pc') (hr : Go p e below G (T.setTop (mkF m pc' Ls (.int (x / y) :: S)))) : Go p e below G (T.setTop (mkF m pc Ls (.int y :: .int x :: S))) := by
  subst hp; exact Go.mono (fun t k => XS.idiv D.st.here D.ex rfl (hb D.cb hd) rfl hy k) hr
theorem g_irem (D : Wk p l e R m args below meth c own bytes maxL Z I s' T locs cells slots h) (pc' : Nat) {x y : Int32} (hd : decode bytes pc = .ok (.irem, 1)) (hy : y ≠ 0) (hp : pc + 1 = pc') (hr : Go p e below G (T.setTop (mkF m pc' Ls (.int (x % y) :: S)))) : Go p e below G (T.setTop (mkF m pc Ls (.int y :: .int x :: S))) := by
  subst hp; exact Go.mono (fun t k => iremM D.st D.ex rfl (hb D.cb hd) rfl hy k) hr
theorem g_ineg (D : Wk p l e R m args below meth c own bytes maxL Z I s' T locs cells slots h) (pc' : Nat) {x : Int32} (hd : decode bytes pc = .ok (.ineg, 1)) (hp : pc + 1 = pc') (hr : Go p e below G (T.setTop (mkF m pc' Ls (.int (-x) :: S)))) : Go p e below G (T.setTop (mkF m pc Ls (.int x :: S))) := by
  subst hp; exact Go.mono (fun t k => XS.ineg D.st.here D.ex rfl (hb D.cb hd) rfl k) hr
theorem g_i2l (D : Wk p l e R m args below meth c own bytes maxL Z I s' T locs cells slots h) (pc' : Nat) {x : Int32} (hd : decode bytes pc = .ok (.i2l, 1)) (hp : pc + 1 = pc') (hr : Go p e below G (T.setTop (mkF m pc' Ls (.long (x.toInt64) :: S)))) : Go p e below G (T.setTop (mkF m pc Ls (.int x :: S))) := by
  subst hp; exact Go.mono (fun t k => XS.i2l D.st.here D.ex rfl (hb D.cb hd) rfl k) hr
theorem g_l2i (D : Wk p l e R m args below meth c own bytes maxL Z I s' T locs cells slots h) (pc' : Nat) {x : Int64} (hd : decode bytes pc = .ok (.l2i, 1)) (hp : pc + 1 = pc') (hr : Go p e below G (T.setTop (mkF m pc' Ls (.int (x.toInt32) :: S)))) : Go p e below G (T.setTop (mkF m pc Ls (.long x :: S))) := by
  subst hp; exact Go.mono (fun t k => XS.l2i D.st.here D.ex rfl (hb D.cb hd) rfl k) hr
theorem g_i2b (D : Wk p l e R m args below meth c own bytes maxL Z I s' T locs cells slots h) (pc' : Nat) {x : Int32} (hd : decode bytes pc = .ok (.i2b, 1)) (hp : pc + 1 = pc') (hr : Go p e below G (T.setTop (mkF m pc' Ls (.int (x.toInt8.toInt32) :: S)))) : Go p e below G (T.setTop (mkF m pc Ls (.int x :: S))) := by
  subst hp; exact Go.mono (fun t k => XS.i2b D.st.here D.ex rfl (hb D.cb hd) rfl k) hr
theorem g_i2c (D : Wk p l e R m args below meth c own bytes maxL Z I s' T locs cells slots h) (pc' : Nat) {x : Int32} (hd : decode bytes pc = .ok (.i2c, 1)) (hp : pc + 1 = pc') (hr : Go p e below G (T.setTop (mkF m pc' Ls (.int (x.toUInt32.toUInt16.toUInt32.toInt32) :: S)))) : Go p e below G (T.setTop (mkF m pc Ls (.int x :: S))) := by
  subst hp; exact Go.mono (fun t k => XS.i2c D.st.here D.ex rfl (hb D.cb hd) rfl k) hr
theorem g_i2s (D : Wk p l e R m args below meth c own bytes maxL Z I s' T locs cells slots h) (pc' : Nat) {x : Int32} (hd : decode bytes pc = .ok (.i2s, 1)) (hp : pc + 1 = pc') (hr : Go p e below G (T.setTop (mkF m pc' Ls (.int (x.toInt16.toInt32) :: S)))) : Go p e below G (T.setTop (mkF m pc Ls (.int x :: S))) := by
  subst hp; exact Go.mono (fun t k => XS.i2s D.st.here D.ex rfl (hb D.cb hd) rfl k) hr
theorem g_lneg (D : Wk p l e R m args below meth c own bytes maxL Z I s' T locs cells slots h) (pc' : Nat) {x : Int64} (hd : decode bytes pc = .ok (.lneg, 1)) (hp : pc + 1 = pc') (hr : Go p e below G (T.setTop (mkF m pc' Ls (.long (-x) :: S)))) : Go p e below G (T.setTop (mkF m pc Ls (.long x :: S))) := by
  subst hp; exact Go.mono (fun t k => XS.lneg D.st.here D.ex rfl (hb D.cb hd) rfl k) hr
theorem g_dup (D : Wk p l e R m args below meth c own bytes maxL Z I s' T locs cells slots h) (pc' : Nat) {x : Value} (hd : decode bytes pc = .ok (.dup, 1)) (hc : x.category = 1) (hp : pc + 1 = pc') (hr : Go p e below G (T.setTop (mkF m pc' Ls (x :: x :: S)))) : Go p e below G (T.setTop (mkF m pc Ls (x :: S))) := by
  subst hp; exact Go.mono (fun t k => XS.dup D.st.here D.ex rfl (hb D.cb hd) rfl hc k) hr
theorem g_pop (D : Wk p l e R m args below meth c own bytes maxL Z I s' T locs cells slots h) (pc' : Nat) {x : Value} (hd : decode bytes pc = .ok (.pop, 1)) (hc : x.category = 1) (hp : pc + 1 = pc') (hr : Go p e below G (T.setTop (mkF m pc' Ls S))) : Go p e below G (T.setTop (mkF m pc Ls (x :: S))) := by
  subst hp; exact Go.mono (fun t k => XS.pop D.st.here D.ex rfl (hb D.cb hd) rfl hc k) hr
theorem g_dupX1 (D : Wk p l e R m args below meth c own bytes maxL Z I s' T locs cells slots h) (pc' : Nat) {x y : Value} (hd : decode bytes pc = .ok (.dup_x1, 1)) (hc : x.category = 1) (hc' : y.category = 1) (hp : pc + 1 = pc') (hr : Go p e below G (T.setTop (mkF m pc' Ls (x :: y :: x :: S)))) : Go p e below G (T.setTop (mkF m pc Ls (x :: y :: S))) := by
  subst hp; exact Go.mono (fun t k => XS.dupX1 D.st.here D.ex rfl (hb D.cb hd) rfl hc hc' k) hr
theorem g_dup2 (D : Wk p l e R m args below meth c own bytes maxL Z I s' T locs cells slots h) (pc' : Nat) {x y : Value} (hd : decode bytes pc = .ok (.dup2, 1)) (hc : x.category = 1) (hc' : y.category = 1) (hp : pc + 1 = pc') (hr : Go p e below G (T.setTop (mkF m pc' Ls (x :: y :: x :: y :: S)))) : Go p e below G (T.setTop (mkF m pc Ls (x :: y :: S))) := by
  subst hp; exact Go.mono (fun t k => XT.dup2 D.st.here D.ex rfl (hb D.cb hd) rfl hc hc' k) hr
theorem g_dup2L (D : Wk p l e R m args below meth c own bytes maxL Z I s' T locs cells slots h) (pc' : Nat) {x : Int64} (hd : decode bytes pc = .ok (.dup2, 1)) (hp : pc + 1 = pc') (hr : Go p e below G (T.setTop (mkF m pc' Ls (.long x :: .long x :: S)))) : Go p e below G (T.setTop (mkF m pc Ls (.long x :: S))) := by
  subst hp; exact Go.mono (fun t k => XT.dup2L D.st.here D.ex rfl (hb D.cb hd) rfl k) hr
theorem g_iinc (D : Wk p l e R m args below meth c own bytes maxL Z I s' T locs cells slots h) (pc' : Nat) {k : Nat} {cst : Int} {x : Int32} (v : Int32) (l' : Array Slot) (hd : decode bytes pc = .ok (.iinc k cst, 3)) (hv : Int32.ofInt cst = v) (hl : Ls[k]? = some (.val (.int x))) (hl' : storeLocals Ls k (.int (x + v)) = some l') (hp : pc + 3 = pc') (hr : Go p e below G (T.setTop (mkF m pc' l' S))) : Go p e below G (T.setTop (mkF m pc Ls S)) := by
  subst hp; subst hv; exact Go.mono (fun t k => XS.iinc D.st.here D.ex rfl (hb D.cb hd) hl hl' k) hr
theorem g_goto (D : Wk p l e R m args below meth c own bytes maxL Z I s' T locs cells slots h) (pc' : Nat) {o : Int} (hd : decode bytes pc = .ok (.goto o, 3)) (ho : 0 ≤ (pc : Int) + o) (hp : ((pc : Int) + o).toNat = pc') (hr : Go p e below G (T.setTop (mkF m pc' Ls S))) : Go p e below G (T.setTop (mkF m pc Ls S)) :=
  Go.mono (fun t k => XS.goto D.st.here D.ex rfl rfl (hb D.cb hd) ho hp k) hr
theorem g_icmpY (D : Wk p l e R m args below meth c own bytes maxL Z I s' T locs cells slots h) (pc' : Nat) {cd : ClassFile.Cond} {x y : Int32} {o : Int} (hd : decode bytes pc = .ok (.if_icmp cd o, 3)) (hc : if_icmp.holds cd x y = true) (ho : 0 ≤ (pc : Int) + o) (hp : ((pc : Int) + o).toNat = pc') (hr : Go p e below G (T.setTop (mkF m pc' Ls S))) : Go p e below G (T.setTop (mkF m pc Ls (.int y :: .int x :: S))) :=
  Go.mono (fun t k => XS.icmpYes D.st.here D.ex rfl rfl (hb D.cb hd) rfl hc ho hp k) hr
theorem g_icmpN (D : Wk p l e R m args below meth c own bytes maxL Z I s' T locs cells slots h) (pc' : Nat) {cd : ClassFile.Cond} {x y : Int32} {o : Int} (hd : decode bytes pc = .ok (.if_icmp cd o, 3)) (hc : if_icmp.holds cd x y = false) (hp : pc + 3 = pc') (hr : Go p e below G (T.setTop (mkF m pc' Ls S))) : Go p e below G (T.setTop (mkF m pc Ls (.int y :: .int x :: S))) := by
  subst hp; exact Go.mono (fun t k => XS.icmpNo D.st.here D.ex rfl (hb D.cb hd) rfl hc k) hr
theorem g_ifY (D : Wk p l e R m args below meth c own bytes maxL Z I s' T locs cells slots h) (pc' : Nat) {cd : ClassFile.Cond} {x : Int32} {o : Int} (hd : decode bytes pc = .ok (.ifCond cd o, 3)) (hc : if_icmp.holds cd x 0 = true) (ho : 0 ≤ (pc : Int) + o) (hp : ((pc : Int) + o).toNat = pc') (hr : Go p e below G (T.setTop (mkF m pc' Ls S))) : Go p e below G (T.setTop (mkF m pc Ls (.int x :: S))) :=
  Go.mono (fun t k => XS.ifYes D.st.here D.ex rfl rfl (hb D.cb hd) rfl ((if0 _ _).trans hc) ho hp k) hr
theorem g_ifN (D : Wk p l e R m args below meth c own bytes maxL Z I s' T locs cells slots h) (pc' : Nat) {cd : ClassFile.Cond} {x : Int32} {o : Int} (hd : decode bytes pc = .ok (.ifCond cd o, 3)) (hc : if_icmp.holds cd x 0 = false) (hp : pc + 3 = pc') (hr : Go p e below G (T.setTop (mkF m pc' Ls S))) : Go p e below G (T.setTop (mkF m pc Ls (.int x :: S))) := by
  subst hp; exact Go.mono (fun t k => XS.ifNo D.st.here D.ex rfl (hb D.cb hd) rfl ((if0 _ _).trans hc) k) hr
theorem g_nullY (D : Wk p l e R m args below meth c own bytes maxL Z I s' T locs cells slots h) (pc' : Nat) {o : Int} (hd : decode bytes pc = .ok (.ifnull o, 3)) (ho : 0 ≤ (pc : Int) + o) (hp : ((pc : Int) + o).toNat = pc') (hr : Go p e below G (T.setTop (mkF m pc' Ls S))) : Go p e below G (T.setTop (mkF m pc Ls (.null :: S))) :=
  Go.mono (fun t k => XS.ifnullYes D.st.here D.ex rfl rfl (hb D.cb hd) rfl ho hp k) hr
theorem g_nullN (D : Wk p l e R m args below meth c own bytes maxL Z I s' T locs cells slots h) (pc' : Nat) {o : Int} {b : Addr} (hd : decode bytes pc = .ok (.ifnull o, 3)) (hp : pc + 3 = pc') (hr : Go p e below G (T.setTop (mkF m pc' Ls S))) : Go p e below G (T.setTop (mkF m pc Ls (.ref b :: S))) := by
  subst hp; exact Go.mono (fun t k => XS.ifnullNo D.st.here D.ex rfl (hb D.cb hd) rfl k) hr
theorem g_nnY (D : Wk p l e R m args below meth c own bytes maxL Z I s' T locs cells slots h) (pc' : Nat) {o : Int} {b : Addr} (hd : decode bytes pc = .ok (.ifnonnull o, 3)) (ho : 0 ≤ (pc : Int) + o) (hp : ((pc : Int) + o).toNat = pc') (hr : Go p e below G (T.setTop (mkF m pc' Ls S))) : Go p e below G (T.setTop (mkF m pc Ls (.ref b :: S))) :=
  Go.mono (fun t k => XS.ifnonnullYes D.st.here D.ex rfl rfl (hb D.cb hd) rfl ho hp k) hr
theorem g_nnN (D : Wk p l e R m args below meth c own bytes maxL Z I s' T locs cells slots h) (pc' : Nat) {o : Int} (hd : decode bytes pc = .ok (.ifnonnull o, 3)) (hp : pc + 3 = pc') (hr : Go p e below G (T.setTop (mkF m pc' Ls S))) : Go p e below G (T.setTop (mkF m pc Ls (.null :: S))) := by
  subst hp; exact Go.mono (fun t k => XS.ifnonnullNo D.st.here D.ex rfl (hb D.cb hd) rfl k) hr
theorem g_acmp (D : Wk p l e R m args below meth c own bytes maxL Z I s' T locs cells slots h) (pc' : Nat) {cd : ACond} {x y : Value} {o : Int} (hd : decode bytes pc = .ok (.if_acmp cd o, 3)) (h1 : x.isRef = true) (h2 : y.isRef = true) {same : Bool} (hq : decide (x = y) = same) (ho : 0 ≤ (pc : Int) + o) (hp : pc' = if acV cd same = true then ((pc : Int) + o).toNat else pc + 3) (hr : Go p e below G (T.setTop (mkF m pc' Ls S))) : Go p e below G (T.setTop (mkF m pc Ls (y :: x :: S))) :=
  Go.mono (fun t k => Jvm.RoadKit.acmp (g := mkF m pc Ls (y :: x :: S)) D.st D.ex rfl h1 h2 rfl (hb D.cb hd) rfl hq ho hp k) hr
theorem g_ldcI (D : Wk p l e R m args below meth c own bytes maxL Z I s' T locs cells slots h) (pc' : Nat) {index : Nat} {v : Int32} (w : (Cond.constant own index v).before a0 Z = true) (hd : decode bytes pc = .ok (.ldc index, 2)) (hp : pc + 2 = pc') (hr : Go p e below G (T.setTop (mkF m pc' Ls (.int v :: S)))) : Go p e below G (T.setTop (mkF m pc Ls S)) := by
  subst hp; exact Go.mono (fun t k => Jvm.Stand.ldcI D.st D.ex D.ow (mv D.wm w) rfl (hb D.cb hd) k) hr
theorem g_ldcWI (D : Wk p l e R m args below meth c own bytes maxL Z I s' T locs cells slots h) (pc' : Nat) {index : Nat} {v : Int32} (w : (Cond.constant own index v).before a0 Z = true) (hd : decode bytes pc = .ok (.ldc_w index, 3)) (hp : pc + 3 = pc') (hr : Go p e below G (T.setTop (mkF m pc' Ls (.int v :: S)))) : Go p e below G (T.setTop (mkF m pc Ls S)) := by
  subst hp; exact Go.mono (fun t k => Jvm.Stand.ldcWI D.st D.ex D.ow (mv D.wm w) rfl (hb D.cb hd) k) hr
theorem g_ldc2J (D : Wk p l e R m args below meth c own bytes maxL Z I s' T locs cells slots h) (pc' : Nat) {index : Nat} {v : Int64} (w : (Cond.constantLong own index v).before a0 Z = true) (hd : decode bytes pc = .ok (.ldc2_w index, 3)) (hp : pc + 3 = pc') (hr : Go p e below G (T.setTop (mkF m pc' Ls (.long v :: S)))) : Go p e below G (T.setTop (mkF m pc Ls S)) := by
  subst hp; exact Go.mono (fun t k => Jvm.Stand.ldc2J D.st D.ex D.ow (mv D.wm w) rfl (hb D.cb hd) k) hr
theorem g_lswHit (D : Wk p l e R m args below meth c own bytes maxL Z I s' T locs cells slots h) (pc' : Nat) {k : Int32} {dflt : Int} {ps : Array (Int × Int)} {len : Nat} {a o : Int} (hd : decode bytes pc = .ok (.lookupswitch dflt ps, len)) (hso : (ps.toList.zip (ps.toList.drop 1)).all (fun (a, next) => a.1 < next.1) = true) (hf : ps.find? (·.1 == k.toInt) = some (a, o)) (ho : 0 ≤ (pc : Int) + o) (hp : ((pc : Int) + o).toNat = pc') (hr : Go p e below G (T.setTop (mkF m pc' Ls S))) : Go p e below G (T.setTop (mkF m pc Ls (.int k :: S))) := by
  subst hp; exact Go.mono (fun t q => D.st.lookupswitchHit D.ex (g := mkF m pc Ls (.int k :: S)) rfl (k := k) (rest := S) rfl (hb D.cb hd) hso hf ho _ q) hr
theorem g_lswMiss (D : Wk p l e R m args below meth c own bytes maxL Z I s' T locs cells slots h) (pc' : Nat) {k : Int32} {dflt : Int} {ps : Array (Int × Int)} {len : Nat} (hd : decode bytes pc = .ok (.lookupswitch dflt ps, len)) (hso : (ps.toList.zip (ps.toList.drop 1)).all (fun (a, next) => a.1 < next.1) = true) (hf : ps.find? (·.1 == k.toInt) = none) (ho : 0 ≤ (pc : Int) + dflt) (hp : ((pc : Int) + dflt).toNat = pc') (hr : Go p e below G (T.setTop (mkF m pc' Ls S))) : Go p e below G (T.setTop (mkF m pc Ls (.int k :: S))) := by
  subst hp; exact Go.mono (fun t q => D.st.lookupswitchMiss D.ex (g := mkF m pc Ls (.int k :: S)) rfl (k := k) (rest := S) rfl (hb D.cb hd) hso hf ho _ q) hr
theorem g_tswIn (D : Wk p l e R m args below meth c own bytes maxL Z I s' T locs cells slots h) (pc' : Nat) {i : Int32} {dflt low high : Int} {offs : Array Int} {len : Nat} {o : Int} (hd : decode bytes pc = .ok (.tableswitch dflt low high offs, len)) (hin : ¬ (i.toInt < low ∨ i.toInt > high)) (hoff : offs[(i.toInt - low).toNat]? = some o) (ho : 0 ≤ (pc : Int) + o) (hp : ((pc : Int) + o).toNat = pc') (hr : Go p e below G (T.setTop (mkF m pc' Ls S))) : Go p e below G (T.setTop (mkF m pc Ls (.int i :: S))) :=
  Go.mono (fun t k => XS.tswIn D.st.here D.ex rfl rfl (hb D.cb hd) rfl hin hoff ho hp k) hr
theorem g_getF (D : Wk p l e R m args below meth c own bytes maxL Z I s' T locs cells slots h) (pc' : Nat) {R0 O n d : String} {index : Nat} (w : (Cond.fieldLink own index R0 n d).before a0 Z = true) (via : Via Z R0 O n d) {a : Addr} {v : Value} (F : Fld Z h a O n d v) (hd : decode bytes pc = .ok (.getfield index, 3)) (hp : pc + 3 = pc')
    (hr : ∀ T', Wk p l e R m args below meth c own bytes maxL Z I s' T' locs cells slots h → Go p e below G (T'.setTop (mkF m pc' Ls (v :: S)))) : Go p e below G (T.setTop (mkF m pc Ls (.ref a :: S))) := by
  subst hp
  obtain ⟨T', X', e', st⟩ := getF D.st D.ex D.wm D.ow (host := "") (Or.inl w) via D.eq F (g := mkF m pc Ls (.ref a :: S)) rfl rfl (hb D.cb hd)
  exact Go.mono st (hr T' (D.mk' X' e' D.iv))
theorem g_getS (D : Wk p l e R m args below meth c own bytes maxL Z I s' T locs cells slots h) (pc' : Nat) {R0 O n d : String} {index : Nat} (w : (Cond.fieldLink own index R0 n d).before a0 Z = true) (via : Via Z R0 O n d) {v : Value} (F : Sta Z h O n d v) (hd : decode bytes pc = .ok (.getstatic index, 3)) (hp : pc + 3 = pc')
    (hr : ∀ T', Wk p l e R m args below meth c own bytes maxL Z I s' T' locs cells slots h → Go p e below G (T'.setTop (mkF m pc' Ls (v :: S)))) : Go p e below G (T.setTop (mkF m pc Ls S)) := by
  subst hp
  obtain ⟨T', X', e', st⟩ := getS (host := "") D.st D.ex D.wm D.ow w via D.eq F (g := mkF m pc Ls S) rfl (hb D.cb hd)
  exact Go.mono st (hr T' (D.mk' X' e' D.iv))
theorem g_putF (D : Wk p l e R m args below meth c own bytes maxL Z I s' T locs cells slots h) (pc' : Nat) {R0 O n d C : String} {index kk : Nat} {ty : FieldType} (w : (Cond.fieldLink own index R0 n d).before a0 Z = true) (via : Via Z R0 O n d) {a : Addr} {v old : Value} (F : Fld Z h a O n d old) (E : Exa Z h a C)
    (L : (Cond.lays C O n d).before a0 Z = true ∨ ((Cond.laysFinal C O n d).before a0 Z = true ∧ own = O ∧ meth.name = "<init>")) (wi : (Cond.instantiable C kk).before a0 Z = true) (hty : parseFieldDescriptor d = some ty) (hn : narrow ty v = v) (hf : fits ty v = true)
    (hI : ∀ h', Wr h h' a (RoadKit.slotOf Z O n d) v → I s' h') (hd : decode bytes pc = .ok (.putfield index, 3)) (hp : pc + 3 = pc')
    (hr : ∀ T' h', Wr h h' a (RoadKit.slotOf Z O n d) v → Wk p l e R m args below meth c own bytes maxL Z I s' T' (locs ++ [⟨a, RoadKit.slotOf Z O n d⟩]) cells slots h' → Go p e below G (T'.setTop (mkF m pc' Ls S))) : Go p e below G (T.setTop (mkF m pc Ls (v :: .ref a :: S))) := by
  subst hp
  obtain ⟨T', h', X', e', W', st⟩ := putF D.st D.ex D.wm D.ow (host := "") (Or.inl w) via D.eq F E L wi hty hn hf (g := mkF m pc Ls (v :: .ref a :: S)) rfl rfl (hb D.cb hd)
  exact Go.mono st (hr T' h' W' (D.mk' X' e' (hI h' W')))
theorem g_newO (D : Wk p l e R m args below meth c own bytes maxL Z I s' T locs cells slots h) (pc' : Nat) {C : String} {index n : Nat} (w : (Cond.classLink own index C).before a0 Z = true) (wi : (Cond.instantiable C n).before a0 Z = true) (wz : (Cond.initialized C).before a0 Z = true) (hd : decode bytes pc = .ok (.new index, 3)) (hc : cells + 1 ≤ R.cells) (hl : slots + n ≤ R.slots) (hI : ∀ h', Ext h h' → I s' h') (hp : pc + 3 = pc')
    (hr : ∀ T' h' a, a = h.size → Ext h h' → Exa Z h' a C → (∀ {O nm d : String} {ty : FieldType}, Laid Z a0 C O nm d → parseFieldDescriptor d = some ty → Fld Z h' a O nm d (defaultValue ty)) → Wk p l e R m args below meth c own bytes maxL Z I s' T' locs (cells + 1) (slots + n) h' → Go p e below G (T'.setTop (mkF m pc' Ls (.ref a :: S)))) : Go p e below G (T.setTop (mkF m pc Ls S)) := by
  subst hp
  obtain ⟨T', h', X', e', E', A', D', -, st⟩ := newO D.st D.ex D.wm D.ow w wi wz D.eq (g := mkF m pc Ls S) rfl (hb D.cb hd) hc hl
  exact Go.mono st (hr T' h' _ rfl E' A' D' (D.mk' X' e' (hI h' E')))
theorem g_newP (D : Wk p l e R m args below meth c own bytes maxL Z I s' T locs cells slots h) (pc' : Nat) {aty : ArrayType} (w : (Cond.arrayClass (newarray.typeOf aty)).before a0 Z = true) {n : Int32} (hd : decode bytes pc = .ok (.newarray aty, 2)) (hn : ¬ n < 0) {cap : Nat} (hcap : n.toNatClampNeg ≤ cap) (hb' : cap * 8 ≤ 536870912) (hc : cells + 1 ≤ R.cells) (hl : slots + cap ≤ R.slots) (hI : ∀ h', Ext h h' → I s' h') (hp : pc + 2 = pc')
    (hr : ∀ T' h' a k, a = h.size → Ext h h' → Arv Z h' a k (newarray.typeOf aty) n [] (defaultValue (newarray.typeOf aty)) → Wk p l e R m args below meth c own bytes maxL Z I s' T' locs (cells + 1) (slots + cap) h' → Go p e below G (T'.setTop (mkF m pc' Ls (.ref a :: S)))) : Go p e below G (T.setTop (mkF m pc Ls (.int n :: S))) := by
  subst hp
  obtain ⟨T', h', k, X', e', E', A', st⟩ := newP D.st D.ex D.wm w D.eq (g := mkF m pc Ls (.int n :: S)) rfl (hb D.cb hd) rfl hn hcap hb' hc hl
  exact Go.mono st (hr T' h' _ k rfl E' (Arv.new A' hn) (D.mk' X' e' (hI h' E')))
theorem g_castY (D : Wk p l e R m args below meth c own bytes maxL Z I s' T locs cells slots h) (pc' : Nat) {K : String} {index : Nat} (w : (Cond.classLink own index K).before a0 Z = true) {a : Addr} (F : Ins Z h a K true) (hd : decode bytes pc = .ok (.checkcast index, 3)) (hp : pc + 3 = pc')
    (hr : ∀ T', Wk p l e R m args below meth c own bytes maxL Z I s' T' locs cells slots h → Go p e below G (T'.setTop (mkF m pc' Ls (.ref a :: S)))) : Go p e below G (T.setTop (mkF m pc Ls (.ref a :: S))) := by
  subst hp
  obtain ⟨T', X', e', st⟩ := castY D.st D.ex D.wm D.ow w D.eq F (g := mkF m pc Ls (.ref a :: S)) rfl rfl (hb D.cb hd)
  exact Go.mono st (hr T' (D.mk' X' e' D.iv))
theorem g_instY (D : Wk p l e R m args below meth c own bytes maxL Z I s' T locs cells slots h) (pc' : Nat) {K : String} {index : Nat} (w : (Cond.classLink own index K).before a0 Z = true) {a : Addr} (F : Ins Z h a K true) (hd : decode bytes pc = .ok (.instanceof index, 3)) (hp : pc + 3 = pc')
    (hr : ∀ T', Wk p l e R m args below meth c own bytes maxL Z I s' T' locs cells slots h → Go p e below G (T'.setTop (mkF m pc' Ls (.int 1 :: S)))) : Go p e below G (T.setTop (mkF m pc Ls (.ref a :: S))) := by
  subst hp
  obtain ⟨T', X', e', st⟩ := instY D.st D.ex D.wm D.ow w D.eq F (g := mkF m pc Ls (.ref a :: S)) rfl rfl (hb D.cb hd)
  exact Go.mono st (hr T' (D.mk' X' e' D.iv))
theorem g_instNo (D : Wk p l e R m args below meth c own bytes maxL Z I s' T locs cells slots h) (pc' : Nat) {K C : String} {index : Nat} (w : (Cond.classLink own index K).before a0 Z = true) {a : Addr} (E : Exa Z h a C) (F : ∃ c t, Z.vm.findClass C = some c ∧ Z.vm.findClass K = some t ∧ Z.vm.assignable c t = false) (hd : decode bytes pc = .ok (.instanceof index, 3)) (hp : pc + 3 = pc')
    (hr : ∀ T', Wk p l e R m args below meth c own bytes maxL Z I s' T' locs cells slots h → Go p e below G (T'.setTop (mkF m pc' Ls (.int 0 :: S)))) : Go p e below G (T.setTop (mkF m pc Ls (.ref a :: S))) := by
  subst hp
  obtain ⟨T', X', e', st⟩ := instNo D.st D.ex D.wm D.ow w D.eq E F (g := mkF m pc Ls (.ref a :: S)) rfl rfl (hb D.cb hd)
  exact Go.mono st (hr T' (D.mk' X' e' D.iv))
theorem g_instNull (D : Wk p l e R m args below meth c own bytes maxL Z I s' T locs cells slots h) (pc' : Nat) {index : Nat} (hd : decode bytes pc = .ok (.instanceof index, 3)) (hp : pc + 3 = pc') (hr : Go p e below G (T.setTop (mkF m pc' Ls (.int 0 :: S)))) : Go p e below G (T.setTop (mkF m pc Ls (.null :: S))) := by
  subst hp
  exact Go.mono (fun t k => D.st.instanceofNull D.ex (g := mkF m pc Ls (.null :: S)) rfl rfl (hb D.cb hd) t k) hr
theorem g_alen (D : Wk p l e R m args below meth c own bytes maxL Z I s' T locs cells slots h) (pc' : Nat) {a : Addr} {k : ClassId} {ty : FieldType} {n : Int32} {vs : List Value} {d : Value} (V : Arv Z h a k ty n vs d) (hd : decode bytes pc = .ok (.arraylength, 1)) (hp : pc + 1 = pc') (hr : Go p e below G (T.setTop (mkF m pc' Ls (.int n :: S)))) : Go p e below G (T.setTop (mkF m pc Ls (.ref a :: S))) := by
  subst hp
  obtain ⟨cl, A, -, q, q', -⟩ := V
  refine Go.mono (fun t k => D.st.arraylength D.ex (by rw [D.eq]; exact A.1) (State.isArrayOf_alike D.wm.alike A.2.1) (g := mkF m pc Ls (.ref a :: S)) rfl rfl (hb D.cb hd) t k) ?_
  rw [len_of q q']; exact hr
theorem g_caload (D : Wk p l e R m args below meth c own bytes maxL Z I s' T locs cells slots h) (pc' : Nat) {a : Addr} {k : ClassId} {n j : Int32} {vs : List Value} {d v : Value} (V : Arv Z h a k .char n vs d) (hj : ¬ j < 0 ∧ j < n) (hv : vs.getD j.toNatClampNeg d = v) (hd : decode bytes pc = .ok (.caload, 1)) (hp : pc + 1 = pc') (hr : Go p e below G (T.setTop (mkF m pc' Ls (v :: S)))) : Go p e below G (T.setTop (mkF m pc Ls (.int j :: .ref a :: S))) := by
  subst hp
  obtain ⟨cl, A, -, q, q', H, -⟩ := V
  exact Go.mono (fun t k => D.st.caload D.ex (by rw [D.eq]; exact A.1) (State.isArrayOf_alike D.wm.alike A.2.1) A.2.2 (inb_of q hj) (H.at (inb_of q hj) hv) (g := mkF m pc Ls (.int j :: .ref a :: S)) rfl rfl (hb D.cb hd) t k) hr
theorem g_baload (D : Wk p l e R m args below meth c own bytes maxL Z I s' T locs cells slots h) (pc' : Nat) {a : Addr} {k : ClassId} {n j : Int32} {vs : List Value} {d v : Value} (V : Arv Z h a k .byte n vs d) (hj : ¬ j < 0 ∧ j < n) (hv : vs.getD j.toNatClampNeg d = v) (hd : decode bytes pc = .ok (.baload, 1)) (hp : pc + 1 = pc') (hr : Go p e below G (T.setTop (mkF m pc' Ls (v :: S)))) : Go p e below G (T.setTop (mkF m pc Ls (.int j :: .ref a :: S))) := by
  subst hp
  obtain ⟨cl, A, -, q, q', H, -⟩ := V
  exact Go.mono (fun t k => D.st.baloadBytes D.ex (by rw [D.eq]; exact A.1) (State.isArrayOf_alike D.wm.alike A.2.1) A.2.2 (inb_of q hj) (H.at (inb_of q hj) hv) (g := mkF m pc Ls (.int j :: .ref a :: S)) rfl rfl (hb D.cb hd) t k) hr
theorem g_iaload (D : Wk p l e R m args below meth c own bytes maxL Z I s' T locs cells slots h) (pc' : Nat) {a : Addr} {k : ClassId} {n j : Int32} {vs : List Value} {d v : Value} (V : Arv Z h a k .int n vs d) (hj : ¬ j < 0 ∧ j < n) (hv : vs.getD j.toNatClampNeg d = v) (hd : decode bytes pc = .ok (.iaload, 1)) (hp : pc + 1 = pc') (hr : Go p e below G (T.setTop (mkF m pc' Ls (v :: S)))) : Go p e below G (T.setTop (mkF m pc Ls (.int j :: .ref a :: S))) := by
  subst hp
  obtain ⟨cl, A, -, q, q', H, -⟩ := V
  exact Go.mono (fun t k => D.st.iaload D.ex (by rw [D.eq]; exact A.1) (State.isArrayOf_alike D.wm.alike A.2.1) A.2.2 (inb_of q hj) (H.at (inb_of q hj) hv) (g := mkF m pc Ls (.int j :: .ref a :: S)) rfl rfl (hb D.cb hd) t k) hr
theorem g_laload (D : Wk p l e R m args below meth c own bytes maxL Z I s' T locs cells slots h) (pc' : Nat) {a : Addr} {k : ClassId} {n j : Int32} {vs : List Value} {d v : Value} (V : Arv Z h a k .long n vs d) (hj : ¬ j < 0 ∧ j < n) (hv : vs.getD j.toNatClampNeg d = v) (hd : decode bytes pc = .ok (.laload, 1)) (hp : pc + 1 = pc') (hr : Go p e below G (T.setTop (mkF m pc' Ls (v :: S)))) : Go p e below G (T.setTop (mkF m pc Ls (.int j :: .ref a :: S))) := by
  subst hp
  obtain ⟨cl, A, -, q, q', H, -⟩ := V
  exact Go.mono (fun t k => D.st.laload D.ex (by rw [D.eq]; exact A.1) (State.isArrayOf_alike D.wm.alike A.2.1) A.2.2 (inb_of q hj) (H.at (inb_of q hj) hv) (g := mkF m pc Ls (.int j :: .ref a :: S)) rfl rfl (hb D.cb hd) t k) hr
theorem g_aaload (D : Wk p l e R m args below meth c own bytes maxL Z I s' T locs cells slots h) (pc' : Nat) {a : Addr} {k : ClassId} {n j : Int32} {ty : FieldType} {vs : List Value} {d v : Value} (V : Arv Z h a k ty n vs d) (hty : ty.isReference = true) (hj : ¬ j < 0 ∧ j < n) (hv : vs.getD j.toNatClampNeg d = v) (hd : decode bytes pc = .ok (.aaload, 1)) (hp : pc + 1 = pc') (hr : Go p e below G (T.setTop (mkF m pc' Ls (v :: S)))) : Go p e below G (T.setTop (mkF m pc Ls (.int j :: .ref a :: S))) := by
  subst hp
  obtain ⟨cl, A, -, q, q', H, -⟩ := V
  exact Go.mono (fun t k => D.st.aaload D.ex (by rw [D.eq]; exact A.1) (State.isArrayOf_alike D.wm.alike A.2.1) hty A.2.2 (inb_of q hj) (H.at (inb_of q hj) hv) (g := mkF m pc Ls (.int j :: .ref a :: S)) rfl rfl (hb D.cb hd) t k) hr
theorem g_castore (D : Wk p l e R m args below meth c own bytes maxL Z I s' T locs cells slots h) (pc' : Nat) {a : Addr} {k : ClassId} {n j : Int32} {x : Int32} {vs : List Value} {d : Value} (V : Arv Z h a k .char n vs d) (hj : ¬ j < 0 ∧ j < n) (i : Nat) (hi : j.toNatClampNeg = i) (hv : i < vs.length) (hI : ∀ h', Wr h h' a j.toNatClampNeg (.int (nar .char x)) → I s' h') (hd : decode bytes pc = .ok (.castore, 1)) (hp : pc + 1 = pc')
    (hr : ∀ T' h', Wr h h' a j.toNatClampNeg (.int (nar .char x)) → Arv Z h' a k .char n (vs.set i (.int (nar .char x))) d → Wk p l e R m args below meth c own bytes maxL Z I s' T' (locs ++ [⟨a, j.toNatClampNeg⟩]) cells slots h' → Go p e below G (T'.setTop (mkF m pc' Ls S))) : Go p e below G (T.setTop (mkF m pc Ls (.int x :: .int j :: .ref a :: S))) := by
  subst hp
  obtain ⟨cl, A, q1, q, q', H, F⟩ := V
  obtain ⟨T', h', X', e', W', st⟩ := stC D.st D.ex D.wm D.eq A (inb_of q hj) (g := mkF m pc Ls (.int x :: .int j :: .ref a :: S)) rfl rfl (hb D.cb hd)
  exact Go.mono st (hr T' h' W' (Arv.set A q1 q q' H F (fits_nar_char _) W' i hi hv) (D.mk' X' e' (hI h' W')))
theorem g_bastore (D : Wk p l e R m args below meth c own bytes maxL Z I s' T locs cells slots h) (pc' : Nat) {a : Addr} {k : ClassId} {n j : Int32} {x : Int32} {vs : List Value} {d : Value} (V : Arv Z h a k .byte n vs d) (hj : ¬ j < 0 ∧ j < n) (i : Nat) (hi : j.toNatClampNeg = i) (hv : i < vs.length) (hI : ∀ h', Wr h h' a j.toNatClampNeg (.int (nar .byte x)) → I s' h') (hd : decode bytes pc = .ok (.bastore, 1)) (hp : pc + 1 = pc')
    (hr : ∀ T' h', Wr h h' a j.toNatClampNeg (.int (nar .byte x)) → Arv Z h' a k .byte n (vs.set i (.int (nar .byte x))) d → Wk p l e R m args below meth c own bytes maxL Z I s' T' (locs ++ [⟨a, j.toNatClampNeg⟩]) cells slots h' → Go p e below G (T'.setTop (mkF m pc' Ls S))) : Go p e below G (T.setTop (mkF m pc Ls (.int x :: .int j :: .ref a :: S))) := by
  subst hp
  obtain ⟨cl, A, q1, q, q', H, F⟩ := V
  obtain ⟨T', h', X', e', W', st⟩ := stB D.st D.ex D.wm D.eq A (inb_of q hj) (g := mkF m pc Ls (.int x :: .int j :: .ref a :: S)) rfl rfl (hb D.cb hd)
  exact Go.mono st (hr T' h' W' (Arv.set A q1 q q' H F (fits_nar_byte _) W' i hi hv) (D.mk' X' e' (hI h' W')))
theorem g_iastore (D : Wk p l e R m args below meth c own bytes maxL Z I s' T locs cells slots h) (pc' : Nat) {a : Addr} {k : ClassId} {n j : Int32} {x : Int32} {vs : List Value} {d : Value} (V : Arv Z h a k .int n vs d) (hj : ¬ j < 0 ∧ j < n) (i : Nat) (hi : j.toNatClampNeg = i) (hv : i < vs.length) (hI : ∀ h', Wr h h' a j.toNatClampNeg (.int x) → I s' h') (hd : decode bytes pc = .ok (.iastore, 1)) (hp : pc + 1 = pc')
    (hr : ∀ T' h', Wr h h' a j.toNatClampNeg (.int x) → Arv Z h' a k .int n (vs.set i (.int x)) d → Wk p l e R m args below meth c own bytes maxL Z I s' T' (locs ++ [⟨a, j.toNatClampNeg⟩]) cells slots h' → Go p e below G (T'.setTop (mkF m pc' Ls S))) : Go p e below G (T.setTop (mkF m pc Ls (.int x :: .int j :: .ref a :: S))) := by
  subst hp
  obtain ⟨cl, A, q1, q, q', H, F⟩ := V
  obtain ⟨T', h', X', e', W', st⟩ := stI D.st D.ex D.wm D.eq A (inb_of q hj) (g := mkF m pc Ls (.int x :: .int j :: .ref a :: S)) rfl rfl (hb D.cb hd)
  exact Go.mono st (hr T' h' W' (Arv.set A q1 q q' H F rfl W' i hi hv) (D.mk' X' e' (hI h' W')))
theorem g_lastore (D : Wk p l e R m args below meth c own bytes maxL Z I s' T locs cells slots h) (pc' : Nat) {a : Addr} {k : ClassId} {n j : Int32} {x : Int64} {vs : List Value} {d : Value} (V : Arv Z h a k .long n vs d) (hj : ¬ j < 0 ∧ j < n) (i : Nat) (hi : j.toNatClampNeg = i) (hv : i < vs.length) (hI : ∀ h', Wr h h' a j.toNatClampNeg (.long x) → I s' h') (hd : decode bytes pc = .ok (.lastore, 1)) (hp : pc + 1 = pc')
    (hr : ∀ T' h', Wr h h' a j.toNatClampNeg (.long x) → Arv Z h' a k .long n (vs.set i (.long x)) d → Wk p l e R m args below meth c own bytes maxL Z I s' T' (locs ++ [⟨a, j.toNatClampNeg⟩]) cells slots h' → Go p e below G (T'.setTop (mkF m pc' Ls S))) : Go p e below G (T.setTop (mkF m pc Ls (.long x :: .int j :: .ref a :: S))) := by
  subst hp
  obtain ⟨cl, A, q1, q, q', H, F⟩ := V
  obtain ⟨T', h', X', e', W', st⟩ := stJ D.st D.ex D.wm D.eq A (inb_of q hj) (g := mkF m pc Ls (.long x :: .int j :: .ref a :: S)) rfl rfl (hb D.cb hd)
  exact Go.mono st (hr T' h' W' (Arv.set A q1 q q' H F rfl W' i hi hv) (D.mk' X' e' (hI h' W')))
theorem g_initO (D : Wk p l e R m args below meth c own bytes maxL Z I s' T locs cells slots h) (pc' : Nat) {idx : Nat} (w1 : (Cond.methodLink own idx Lib.objectInit).before a0 Z = true) (w2 : (Cond.instanceMethod Lib.objectInit).before a0 Z = true) (w3 : (Cond.code Lib.objectInit ⟨#[0xb1]⟩ 1 none).before a0 Z = true) (hsz : Ls.size = maxL) {a : Addr} (hd : decode bytes pc = .ok (.invokespecial idx, 3)) (hf : 1 ≤ R.frames) {W : Nat} (hW : (S.map fun v => v.category).sum ≤ W) (hl : W + 12 ≤ R.locals) (hp : pc + 3 = pc')
    (hr : ∀ T', Wk p l e R m args below meth c own bytes maxL Z I s' T' locs cells slots h → Go p e below G (T'.setTop (mkF m pc' Ls S))) : Go p e below G (T.setTop (mkF m pc Ls (.ref a :: S))) := by
  subst hp
  obtain ⟨T', X', e', st⟩ := initO D.st D.ex D.wm D.ow w1 w2 w3 D.eq (g := mkF m pc Ls (.ref a :: S)) rfl (by rw [D.ml]; exact hsz) rfl (hb D.cb hd) hf (W := W) (by simpa using hW) hl
  exact Go.mono st (hr T' (D.mk' X' e' D.iv))
theorem g_clone (D : Wk p l e R m args below meth c own bytes maxL Z I s' T locs cells slots h) (pc' : Nat) {ad : String} {index : Nat} (w1 : (Cond.methodLink own index ⟨ad, "clone", "()Ljava/lang/Object;"⟩).before a0 Z = true) (w2 : (Cond.sameMethod ad "java/lang/Object" "clone" "()Ljava/lang/Object;").before a0 Z = true) (w3 : (Cond.native ⟨"java/lang/Object", "clone", "()Ljava/lang/Object;"⟩).before a0 Z = true) (w4 : (Cond.instanceMethod ⟨"java/lang/Object", "clone", "()Ljava/lang/Object;"⟩).before a0 Z = true) (w5 : (Cond.selects ad ⟨ad, "clone", "()Ljava/lang/Object;"⟩ ⟨"java/lang/Object", "clone", "()Ljava/lang/Object;"⟩).before a0 Z = true) (w6 : (Cond.castable ad "java/lang/Cloneable").before a0 Z = true)
    {a : Addr} {k : ClassId} {ty : FieldType} {z : Int32} {vs : List Value} {dv : Value} (F : Arv Z h a k ty z vs dv) (E : Exa Z h a ad) (hsz : Ls.size = maxL) (hd : decode bytes pc = .ok (.invokevirtual index, 3)) (hf : 1 ≤ R.frames) {W cap : Nat} (hW : (S.map fun v => v.category).sum ≤ W) (hl : W + 14 ≤ R.locals) (hcap : z.toNatClampNeg ≤ cap) (hc : cells + 1 ≤ R.cells) (hsl : slots + cap ≤ R.slots) (hI : ∀ h', Ext h h' → I s' h') (hp : pc + 3 = pc')
    (hr : ∀ T' h' b, b = h.size → Ext h h' → Arv Z h' b k ty z vs dv → Exa Z h' b ad → Wk p l e R m args below meth c own bytes maxL Z I s' T' locs (cells + 1) (slots + cap) h' → Go p e below G (T'.setTop (mkF m pc' Ls (.ref b :: S)))) : Go p e below G (T.setTop (mkF m pc Ls (.ref a :: S))) := by
  subst hp
  obtain ⟨T', h', X', e', E', A', B', st⟩ := cloneH D.st D.ex D.wm D.ow w1 w2 w3 w4 w5 w6 D.eq F.arh E (g := mkF m pc Ls (.ref a :: S)) rfl (by rw [D.ml]; exact hsz) rfl (hb D.cb hd) hf (by simpa using hW) hl hcap hc hsl
  exact Go.mono st (hr T' h' _ rfl E' A' B' (D.mk' X' e' (hI h' E')))
theorem g_callS (D : Wk p l e R m args below meth c own bytes maxL Z I s' T locs cells slots h) (pc' : Nat) {index : Nat} {y : MethodName} {bz : ByteArray} {mL : Nat} {ret' : Option FieldType} {W ck sk : Nat} {as' : Array Value} {Q : Option Value → Heap → List Loc → Prop} (w1 : (Cond.methodLink own index y).before a0 Z = true) (w2 : (Cond.static y).before a0 Z = true) (w3 : (Cond.initialized y.cls).before a0 Z = true) (w4 : (Cond.code y bz mL ret').before a0 Z = true) (hy : y.cls ≠ "java/lang/invoke/MethodHandle" ∧ y.cls ≠ "java/lang/invoke/VarHandle")
    (K : Back l R p e below s' args y 3 W (fun A a => a = as' ∧ A.U.heap = h ∧ A.cells + ck ≤ R.cells ∧ A.slots + sk ≤ R.slots) (fun A _ v B => ∃ L, Q v B.U.heap L ∧ B.locs = A.locs ++ L ∧ B.cells = A.cells + ck ∧ B.slots = A.slots + sk)) (hsz : Ls.size = maxL) (argsL : List Value) (has : argsL.toArray = as') (hlen : ∀ sig, parseMethodDescriptor y.desc = some sig → argsL.length = sig.parameters.length) {S0 : List Value} (hst : S0 = argsL.reverse ++ S) (hW : (S.map fun v => v.category).sum ≤ W) (hc : cells + ck ≤ R.cells) (hl : slots + sk ≤ R.slots) (hI : ∀ v h' L, Q v h' L → I s' h') (hd : decode bytes pc = .ok (.invokestatic index, 3)) (hp : pc + 3 = pc')
    (hr : ∀ v T' h' L, Q v h' L → Wk p l e R m args below meth c own bytes maxL Z I s' T' (locs ++ L) (cells + ck) (slots + sk) h' → Go p e below G (T'.setTop (mkF m pc' Ls (v.toList ++ S)))) : Go p e below G (T.setTop (mkF m pc Ls S0)) := by
  subst hp hst
  obtain ⟨v, _, ⟨T', L', k', n'⟩, -, X', ⟨L, hQ, l', y', z'⟩, st⟩ := Jvm.LawKit.callS D.st D.ex D.ow (mvT D.wm w1) (mvT D.wm w2) (mvT D.wm w3) (mvT D.wm w4) hy K (g := mkF m pc Ls (argsL.reverse ++ S)) rfl (by rw [D.ml]; exact hsz) (argsL := argsL) (rest := S) hlen rfl (by simpa using hW) (hb D.cb hd) (fun _ _ => ⟨has, D.eq, hc, hl⟩)
  dsimp only at X' l' y' z' st hQ
  subst l' y' z'
  exact Go.mono st (hr v T' _ L hQ (D.mk' X' rfl (hI v _ L hQ)))
theorem g_callV (D : Wk p l e R m args below meth c own bytes maxL Z I s' T locs cells slots h) (pc' : Nat) {index : Nat} {y z : MethodName} {C : String} {W ck sk : Nat} {as' : Array Value} {Q : Option Value → Heap → List Loc → Prop} (w1 : (Cond.methodLink own index y).before a0 Z = true) (w2 : (Cond.declares y).before a0 Z = true) (hnf : NotFace s' y) (w4 : (Cond.selects C y z).before a0 Z = true) (w5 : (Cond.instanceMethod z).before a0 Z = true) (hy : y.cls ≠ "java/lang/invoke/MethodHandle" ∧ y.cls ≠ "java/lang/invoke/VarHandle")
    (K : Back l R p e below s' args z 3 W (fun A a => a = as' ∧ A.U.heap = h ∧ A.cells + ck ≤ R.cells ∧ A.slots + sk ≤ R.slots) (fun A _ v B => ∃ L, Q v B.U.heap L ∧ B.locs = A.locs ++ L ∧ B.cells = A.cells + ck ∧ B.slots = A.slots + sk)) {b : Addr} (E : Exa Z h b C) (hsz : Ls.size = maxL) (argsL : List Value) (has : (.ref b :: argsL).toArray = as') (hlen : ∀ sig, parseMethodDescriptor y.desc = some sig → argsL.length = sig.parameters.length) {S0 : List Value} (hst : S0 = argsL.reverse ++ .ref b :: S) (hW : (S.map fun v => v.category).sum ≤ W) (hc : cells + ck ≤ R.cells) (hl : slots + sk ≤ R.slots) (hI : ∀ v h' L, Q v h' L → I s' h') (hd : decode bytes pc = .ok (.invokevirtual index, 3)) (hp : pc + 3 = pc')
    (hr : ∀ v T' h' L, Q v h' L → Wk p l e R m args below meth c own bytes maxL Z I s' T' (locs ++ L) (cells + ck) (slots + sk) h' → Go p e below G (T'.setTop (mkF m pc' Ls (v.toList ++ S)))) : Go p e below G (T.setTop (mkF m pc Ls S0)) := by
  subst hp hst
  obtain ⟨cq, kq, qa, qb, qc⟩ := isOf D.wm D.eq E
  obtain ⟨v, _, ⟨T', L', k', n'⟩, -, X', ⟨L, hQ, l', y', z'⟩, st⟩ := D.st.virtualBack D.ex (y := y) (z := z) D.ow (mvT D.wm w1) (mvT D.wm w2) hnf (mvT D.wm w4) (mvT D.wm w5) hy K qa qc (g := mkF m pc Ls (argsL.reverse ++ .ref b :: S)) rfl (by rw [D.ml]; exact hsz) (Steps.refl _) (argsL := argsL) (rest := S) hlen rfl (by simpa using hW) (hb D.cb hd) (fun _ _ => ⟨has, D.eq, hc, hl⟩)
  dsimp only at X' l' y' z' st hQ
  subst l' y' z'
  exact Go.mono (fun t k => st.trans k) (hr v T' _ L hQ (D.mk' X' rfl (hI v _ L hQ)))
theorem g_callN (D : Wk p l e R m args below meth c own bytes maxL Z I s' T locs cells slots h) (pc' : Nat) {index : Nat} {y : MethodName} {bz : ByteArray} {mL : Nat} {W ck sk : Nat} {as' : Array Value} {Q : Option Value → Heap → List Loc → Prop} (hy1 : y.name = "<init>") (w1 : (Cond.methodLink own index y).before a0 Z = true) (w2 : (Cond.instanceMethod y).before a0 Z = true) (w3 : (Cond.code y bz mL none).before a0 Z = true) (hy : y.cls ≠ "java/lang/invoke/MethodHandle" ∧ y.cls ≠ "java/lang/invoke/VarHandle")
    (K : Back l R p e below s' args y 3 W (fun A a => a = as' ∧ A.U.heap = h ∧ A.cells + ck ≤ R.cells ∧ A.slots + sk ≤ R.slots) (fun A _ v B => ∃ L, Q v B.U.heap L ∧ B.locs = A.locs ++ L ∧ B.cells = A.cells + ck ∧ B.slots = A.slots + sk)) {b : Addr} (hsz : Ls.size = maxL) (argsL : List Value) (has : (.ref b :: argsL).toArray = as') (hlen : ∀ sig, parseMethodDescriptor y.desc = some sig → argsL.length = sig.parameters.length) {S0 : List Value} (hst : S0 = argsL.reverse ++ .ref b :: S) (hW : (S.map fun v => v.category).sum ≤ W) (hc : cells + ck ≤ R.cells) (hl : slots + sk ≤ R.slots) (hI : ∀ v h' L, Q v h' L → I s' h') (hd : decode bytes pc = .ok (.invokespecial index, 3)) (hp : pc + 3 = pc')
    (hr : ∀ v T' h' L, Q v h' L → Wk p l e R m args below meth c own bytes maxL Z I s' T' (locs ++ L) (cells + ck) (slots + sk) h' → Go p e below G (T'.setTop (mkF m pc' Ls (v.toList ++ S)))) : Go p e below G (T.setTop (mkF m pc Ls S0)) := by
  subst hp hst
  obtain ⟨v, _, ⟨T', L', k', n'⟩, -, X', ⟨L, hQ, l', y', z'⟩, st⟩ := D.st.specialBack D.ex (y := y) hy1 D.ow (mvT D.wm w1) (mvT D.wm w2) (mvT D.wm w3) hy K (g := mkF m pc Ls (argsL.reverse ++ .ref b :: S)) rfl (by rw [D.ml]; exact hsz) (Steps.refl _) (a := b) (argsL := argsL) (rest := S) hlen rfl (by simpa using hW) (hb D.cb hd) (fun _ _ => ⟨has, D.eq, hc, hl⟩)
  dsimp only at X' l' y' z' st hQ
  subst l' y' z'
  exact Go.mono (fun t k => st.trans k) (hr v T' _ L hQ (D.mk' X' rfl (hI v _ L hQ)))
theorem g_callNN (D : Wk p l e R m args below meth c own bytes maxL Z I s' T locs cells slots h) (pc' : Nat) {index : Nat} {host : String} {y : MethodName} {bz : ByteArray} {mL : Nat} {W ck sk : Nat} {as' : Array Value} {Q : Option Value → Heap → List Loc → Prop} (hy1 : y.name = "<init>") (w1 : (Cond.methodLinkNest own index y host).before a0 Z = true) (w2 : (Cond.instanceMethod y).before a0 Z = true) (w3 : (Cond.code y bz mL none).before a0 Z = true) (hy : y.cls ≠ "java/lang/invoke/MethodHandle" ∧ y.cls ≠ "java/lang/invoke/VarHandle")
    (K : Back l R p e below s' args y 3 W (fun A a => a = as' ∧ A.U.heap = h ∧ A.cells + ck ≤ R.cells ∧ A.slots + sk ≤ R.slots) (fun A _ v B => ∃ L, Q v B.U.heap L ∧ B.locs = A.locs ++ L ∧ B.cells = A.cells + ck ∧ B.slots = A.slots + sk)) {b : Addr} (hsz : Ls.size = maxL) (argsL : List Value) (has : (.ref b :: argsL).toArray = as') (hlen : ∀ sig, parseMethodDescriptor y.desc = some sig → argsL.length = sig.parameters.length) {S0 : List Value} (hst : S0 = argsL.reverse ++ .ref b :: S) (hW : (S.map fun v => v.category).sum ≤ W) (hc : cells + ck ≤ R.cells) (hl : slots + sk ≤ R.slots) (hI : ∀ v h' L, Q v h' L → I s' h') (hd : decode bytes pc = .ok (.invokespecial index, 3)) (hp : pc + 3 = pc')
    (hr : ∀ v T' h' L, Q v h' L → Wk p l e R m args below meth c own bytes maxL Z I s' T' (locs ++ L) (cells + ck) (slots + sk) h' → Go p e below G (T'.setTop (mkF m pc' Ls (v.toList ++ S)))) : Go p e below G (T.setTop (mkF m pc Ls S0)) := by
  subst hp hst
  obtain ⟨v, _, ⟨T', L', k', n'⟩, -, X', ⟨L, hQ, l', y', z'⟩, st⟩ := D.st.specialBackNest D.ex (y := y) hy1 D.ow (Cond.methodLinkNest_wide D.wm w1 :) (mvT D.wm w2) (mvT D.wm w3) hy K (g := mkF m pc Ls (argsL.reverse ++ .ref b :: S)) rfl (by rw [D.ml]; exact hsz) (Steps.refl _) (a := b) (argsL := argsL) (rest := S) hlen rfl (by simpa using hW) (hb D.cb hd) (fun _ _ => ⟨has, D.eq, hc, hl⟩)
  dsimp only at X' l' y' z' st hQ
  subst l' y' z'
  exact Go.mono (fun t k => st.trans k) (hr v T' _ L hQ (D.mk' X' rfl (hI v _ L hQ)))
theorem g_newPE (D : Wk p l e R m args below meth c own bytes maxL Z I s' T locs cells slots h) (pc' : Nat) {aty : ArrayType} (w : (Cond.arrayClass (newarray.typeOf aty)).before a0 Z = true) {n : Int32} (hd : decode bytes pc = .ok (.newarray aty, 2)) (hn : ¬ n < 0) {cap : Nat} (hcap : n.toNatClampNeg ≤ cap) (hb' : cap * 8 ≤ 536870912) (hc : cells + 1 ≤ R.cells) (hl : slots + cap ≤ R.slots) {ad : String} (had : "[" ++ (newarray.typeOf aty).toString = ad) (hI : ∀ h', Ext h h' → I s' h') (hp : pc + 2 = pc')
    (hr : ∀ T' h' a k, a = h.size → Ext h h' → Arv Z h' a k (newarray.typeOf aty) n [] (defaultValue (newarray.typeOf aty)) → Exa Z h' a ad → Wk p l e R m args below meth c own bytes maxL Z I s' T' locs (cells + 1) (slots + cap) h' → Go p e below G (T'.setTop (mkF m pc' Ls (.ref a :: S)))) : Go p e below G (T.setTop (mkF m pc Ls (.int n :: S))) := by
  subst hp
  obtain ⟨T', h', k, X', e', E', A', B', st⟩ := newPE D.st D.ex D.wm w D.eq (g := mkF m pc Ls (.int n :: S)) rfl (hb D.cb hd) rfl hn hcap hb' hc hl had
  exact Go.mono st (hr T' h' _ k rfl E' (Arv.new A' hn) B' (D.mk' X' e' (hI h' E')))
theorem g_cpA (D : Wk p l e R m args below meth c own bytes maxL Z I s' T locs cells slots h) (pc' : Nat) {index : Nat} (w1 : (Cond.methodLink own index Jvm.Stand.acN).before a0 Z = true) (w2 : (Cond.native Jvm.Stand.acN).before a0 Z = true) (w3 : (Cond.static Jvm.Stand.acN).before a0 Z = true) (w4 : (Cond.initialized "java/lang/System").before a0 Z = true) {a b : Addr} {k k' : ClassId} {ty : FieldType} {z z' sp dp nn : Int32} {vs vd : List Value} {dv dd : Value} (us : List Value) (A : Arv Z h a k ty z vs dv) (B : Arv Z h b k' ty z' vd dd) (hty : refKind ty = false)
    (h1 : ¬ sp < 0) (h2 : ¬ dp < 0) (h3 : ¬ nn < 0) (h4 : sp.toNatClampNeg + nn.toNatClampNeg ≤ z.toNatClampNeg) (h5 : dp.toNatClampNeg + nn.toNatClampNeg ≤ z'.toNatClampNeg) (hus : us = (List.range nn.toNatClampNeg).map fun i => vs.getD (sp.toNatClampNeg + i) dv) (hl : dp.toNatClampNeg + nn.toNatClampNeg ≤ vd.length) {n0 : Nat} (N : Fr n0 locs) (ge : n0 ≤ b) (hsz : Ls.size = maxL) (hd : decode bytes pc = .ok (.invokestatic index, 3)) (hf : 1 ≤ R.frames) {W : Nat} (hW : (S.map fun v => v.category).sum ≤ W) (hlo : W + (nativeFrameWords "java/lang/System" "arraycopy" 5 + 11) ≤ R.locals) (hI : ∀ h', Keep h h' [b] → I s' h') (hp : pc + 3 = pc')
    (hr : ∀ T' h' L, Fr n0 L → Keep h h' [b] → Arv Z h' b k' ty z' (vd.take dp.toNatClampNeg ++ us ++ vd.drop (dp.toNatClampNeg + nn.toNatClampNeg)) dd → Wk p l e R m args below meth c own bytes maxL Z I s' T' L cells slots h' → Go p e below G (T'.setTop (mkF m pc' Ls S))) : Go p e below G (T.setTop (mkF m pc Ls (.int nn :: .int dp :: .ref b :: .int sp :: .ref a :: S))) := by
  subst hp
  obtain ⟨T', h', L, X', e', N', K', A', st⟩ := cpA D.st D.ex D.wm D.ow w1 w2 w3 w4 D.eq A B (Or.inl ⟨rfl, hty⟩) h1 h2 h3 h4 h5 hus hl N ge (g := mkF m pc Ls (.int nn :: .int dp :: .ref b :: .int sp :: .ref a :: S)) rfl (by rw [D.ml]; exact hsz) rfl (hb D.cb hd) hf (by simpa using hW) hlo
  exact Go.mono st (hr T' h' L N' K' A' (D.mk' X' e' (hI h' K')))
theorem g_callSp (D : Wk p l e R m args below meth c own bytes maxL Z I s' T locs cells slots h) (pc' : Nat) {index : Nat} {y : MethodName} {bz : ByteArray} {mL : Nat} {ret' : Option FieldType} {W ck sk : Nat} {as' : Array Value} {Pv : Option Value → Prop} (w1 : (Cond.methodLink own index y).before a0 Z = true) (w2 : (Cond.static y).before a0 Z = true) (w3 : (Cond.initialized y.cls).before a0 Z = true) (w4 : (Cond.code y bz mL ret').before a0 Z = true) (hy : y.cls ≠ "java/lang/invoke/MethodHandle" ∧ y.cls ≠ "java/lang/invoke/VarHandle")
    (K : Back l R p e below s' args y 3 W (fun A a => a = as' ∧ A.U.heap = h ∧ A.cells + ck ≤ R.cells ∧ A.slots + sk ≤ R.slots) (fun A _ v B => ∃ L, (Pv v ∧ L = [] ∧ B.U.heap = h) ∧ B.locs = A.locs ++ L ∧ B.cells = A.cells + ck ∧ B.slots = A.slots + sk)) (hsz : Ls.size = maxL) (argsL : List Value) (has : argsL.toArray = as') (hlen : ∀ sig, parseMethodDescriptor y.desc = some sig → argsL.length = sig.parameters.length) {S0 : List Value} (hst : S0 = argsL.reverse ++ S) (hW : (S.map fun v => v.category).sum ≤ W) (hc : cells + ck ≤ R.cells) (hl : slots + sk ≤ R.slots) (hd : decode bytes pc = .ok (.invokestatic index, 3)) (hp : pc + 3 = pc')
    (hr : ∀ v T', Pv v → Wk p l e R m args below meth c own bytes maxL Z I s' T' locs (cells + ck) (slots + sk) h → Go p e below G (T'.setTop (mkF m pc' Ls (v.toList ++ S)))) : Go p e below G (T.setTop (mkF m pc Ls S0)) := by
  refine g_callS D pc' (Q := fun v h' L => Pv v ∧ L = [] ∧ h' = h) w1 w2 w3 w4 hy K hsz argsL has hlen hst hW hc hl (fun v h' L q => q.2.2 ▸ D.iv) hd hp ?_
  intro v T' h' L q D'
  obtain ⟨q1, q2, q3⟩ := q
  subst q2 q3
  rw [List.append_nil] at D'
  exact hr v T' q1 D'
theorem g_callVp (D : Wk p l e R m args below meth c own bytes maxL Z I s' T locs cells slots h) (pc' : Nat) {index : Nat} {y z : MethodName} {C : String} {W ck sk : Nat} {as' : Array Value} {Pv : Option Value → Prop} (w1 : (Cond.methodLink own index y).before a0 Z = true) (w2 : (Cond.declares y).before a0 Z = true) (hnf : NotFace s' y) (w4 : (Cond.selects C y z).before a0 Z = true) (w5 : (Cond.instanceMethod z).before a0 Z = true) (hy : y.cls ≠ "java/lang/invoke/MethodHandle" ∧ y.cls ≠ "java/lang/invoke/VarHandle")
    (K : Back l R p e below s' args z 3 W (fun A a => a = as' ∧ A.U.heap = h ∧ A.cells + ck ≤ R.cells ∧ A.slots + sk ≤ R.slots) (fun A _ v B => ∃ L, (Pv v ∧ L = [] ∧ B.U.heap = h) ∧ B.locs = A.locs ++ L ∧ B.cells = A.cells + ck ∧ B.slots = A.slots + sk)) {b : Addr} (E : Exa Z h b C) (hsz : Ls.size = maxL) (argsL : List Value) (has : (.ref b :: argsL).toArray = as') (hlen : ∀ sig, parseMethodDescriptor y.desc = some sig → argsL.length = sig.parameters.length) {S0 : List Value} (hst : S0 = argsL.reverse ++ .ref b :: S) (hW : (S.map fun v => v.category).sum ≤ W) (hc : cells + ck ≤ R.cells) (hl : slots + sk ≤ R.slots) (hd : decode bytes pc = .ok (.invokevirtual index, 3)) (hp : pc + 3 = pc')
    (hr : ∀ v T', Pv v → Wk p l e R m args below meth c own bytes maxL Z I s' T' locs (cells + ck) (slots + sk) h → Go p e below G (T'.setTop (mkF m pc' Ls (v.toList ++ S)))) : Go p e below G (T.setTop (mkF m pc Ls S0)) := by
  refine g_callV D pc' (Q := fun v h' L => Pv v ∧ L = [] ∧ h' = h) w1 w2 hnf w4 w5 hy K E hsz argsL has hlen hst hW hc hl (fun v h' L q => q.2.2 ▸ D.iv) hd hp ?_
  intro v T' h' L q D'
  obtain ⟨q1, q2, q3⟩ := q
  subst q2 q3
  rw [List.append_nil] at D'
  exact hr v T' q1 D'
theorem clt_t {x y : Int64} (h : x < y) : XT.cmpL x y < 0 := by have := Int64.lt_iff_toInt_lt.mp h; unfold XT.cmpL; split <;> (try split) <;> simp_all [Int64.lt_iff_toInt_lt, ← Int64.toInt_inj] <;> omega
theorem clt_f {x y : Int64} (h : ¬ x < y) : ¬ XT.cmpL x y < 0 := by unfold XT.cmpL; split <;> (try split) <;> simp_all [Int64.lt_iff_toInt_lt, ← Int64.toInt_inj] <;> omega
theorem cgt_t {x y : Int64} (h : y < x) : 0 < XT.cmpL x y := by unfold XT.cmpL; split <;> (try split) <;> simp_all [Int64.lt_iff_toInt_lt, ← Int64.toInt_inj] <;> omega
theorem cgt_f {x y : Int64} (h : ¬ y < x) : ¬ 0 < XT.cmpL x y := by unfold XT.cmpL; split <;> (try split) <;> simp_all [Int64.lt_iff_toInt_lt, ← Int64.toInt_inj] <;> omega
theorem ceq_t {x y : Int64} (h : x = y) : XT.cmpL x y = 0 := by unfold XT.cmpL; split <;> (try split) <;> simp_all [Int64.lt_iff_toInt_lt, ← Int64.toInt_inj] <;> omega
theorem ceq_f {x y : Int64} (h : ¬ x = y) : ¬ XT.cmpL x y = 0 := by unfold XT.cmpL; split <;> (try split) <;> simp_all [Int64.lt_iff_toInt_lt, ← Int64.toInt_inj] <;> omega
/-- the invariant of a walk that loads no literal -/
def NI : State → Heap → Prop := fun _ _ => True
/-- what a walk that loads no literal ends in -/
def NG (s : State) (Q : Option Value → Heap → List Loc → Prop) (ck sk : Nat) : Outcome → State → Prop := fun o U' => ∃ v L, o = .returned v ∧ Q v U'.heap L ∧ FrameEnd s o U' L ck sk
variable {Q : Option Value → Heap → List Loc → Prop} {ck sk : Nat}
theorem r_gen (D : Wk p l e R m args below meth c own bytes maxL Z I s' T locs cells slots h) {v : Option Value} (hv : meth.sig.returnType = none → v = none) (hlk : meth.locks = false) (hst : ∀ fs, (∀ (f : JFrame) (acts : List Action), f.method = m → f.locked = none → f.entered = [] → (doReturn e (T.setTop f) acts v).1 = T.setFrames fs) → Steps p.tables e below (T.setTop (mkF m pc Ls S)) (T.setFrames fs)) (hQ : Q v h locs) (hc : cells ≤ ck) (hs : slots ≤ sk) : Go p e below (NG s' Q ck sk) (T.setTop (mkF m pc Ls S)) := by
  obtain ⟨fs, hr, hrun, hended, hW, hsame⟩ := D.st.leave (v := v) hv hlk
  refine ⟨_, _, hst fs hr, hrun, hended, _, _, rfl, ?_, ⟨_, rfl⟩, hW, hsame.mono hc hs⟩
  show Q v T.heap locs
  rw [D.eq]; exact hQ
theorem r_I (D : Wk p l e R m args below meth c own bytes maxL Z I s' T locs cells slots h) {z : Int32} (hret : meth.sig.returnType = some .int) (hlk : meth.locks = false) (hd : decode bytes pc = .ok (.ireturn, 1)) (hQ : Q (some (.int z)) h locs) (hc : cells ≤ ck) (hs : slots ≤ sk) : Go p e below (NG s' Q ck sk) (T.setTop (mkF m pc Ls (.int z :: S))) :=
  r_gen D (fun h => by rw [hret] at h; cases h) hlk (fun fs hr => retOut D.st D.ex hret rfl (Or.inl ⟨rfl, Or.inl rfl, _, rfl⟩) (hb D.cb hd) hr) hQ hc hs
theorem r_N (D : Wk p l e R m args below meth c own bytes maxL Z I s' T locs cells slots h) {t : FieldType} {z : Int32} (hret : meth.sig.returnType = some t) (ht : t = .boolean ∨ t = .byte ∨ t = .char ∨ t = .short) (hlk : meth.locks = false) (hd : decode bytes pc = .ok (.ireturn, 1)) (hQ : Q (some (.int (nar t z))) h locs) (hc : cells ≤ ck) (hs : slots ≤ sk) : Go p e below (NG s' Q ck sk) (T.setTop (mkF m pc Ls (.int z :: S))) :=
  r_gen D (fun h => by rw [hret] at h; cases h) hlk (fun fs hr => retN D.st D.ex hret ht (hb D.cb hd) hr) hQ hc hs
theorem r_A (D : Wk p l e R m args below meth c own bytes maxL Z I s' T locs cells slots h) {t : FieldType} {w : Value} (hret : meth.sig.returnType = some t) (ht : t.isReference = true) (hw : w.isRef = true) (hlk : meth.locks = false) (hd : decode bytes pc = .ok (.areturn, 1)) (hQ : Q (some w) h locs) (hc : cells ≤ ck) (hs : slots ≤ sk) : Go p e below (NG s' Q ck sk) (T.setTop (mkF m pc Ls (w :: S))) :=
  r_gen D (fun h => by rw [hret] at h; cases h) hlk (fun fs hr => retOut D.st D.ex hret (by cases t <;> first | (cases ht; done) | rfl) (Or.inr (Or.inr (Or.inr (Or.inr ⟨rfl, ht, hw⟩)))) (hb D.cb hd) hr) hQ hc hs
theorem r_J (D : Wk p l e R m args below meth c own bytes maxL Z I s' T locs cells slots h) {z : Int64} (hret : meth.sig.returnType = some .long) (hlk : meth.locks = false) (hd : decode bytes pc = .ok (.lreturn, 1)) (hQ : Q (some (.long z)) h locs) (hc : cells ≤ ck) (hs : slots ≤ sk) : Go p e below (NG s' Q ck sk) (T.setTop (mkF m pc Ls (.long z :: S))) :=
  r_gen D (fun h => by rw [hret] at h; cases h) hlk (fun fs hr => retOut D.st D.ex hret rfl (Or.inr (Or.inl ⟨rfl, rfl, _, rfl⟩)) (hb D.cb hd) hr) hQ hc hs
theorem r_V (D : Wk p l e R m args below meth c own bytes maxL Z I s' T locs cells slots h) (hret : meth.sig.returnType = none) (hlk : meth.locks = false) (hd : decode bytes pc = .ok (.return_, 1)) (hQ : Q none h locs) (hc : cells ≤ ck) (hs : slots ≤ sk) : Go p e below (NG s' Q ck sk) (T.setTop (mkF m pc Ls [])) :=
  r_gen D (fun _ => rfl) hlk (fun fs hr => D.st.returnOut D.ex hret (hb D.cb hd) hr) hQ hc hs
end Walk
/-- a contract: called with these arguments at this heap it returns, and Q tells what it leaves -/
abbrev Con (l : Launch) (y : MethodName) (bytes : ByteArray) (maxL : Nat) (ret : Option FieldType) (ws : List Jvm.Cond) (rm : Room) (Z : State) (as' : Array Value) (h0 : Heap) (Q : Option Value → Heap → List Loc → Prop) (ck sk : Nat) : Prop :=
  MetFree l y (head1 (Jvm.Cond.code y bytes maxL ret :: ws) rm) (fun a U => a = as' ∧ Z.Warmed39 U.vm ∧ U.heap = h0) (fun _ _ _ _ _ => True) (fun _ U o U' => ∃ v L, o = .returned v ∧ Q v U'.heap L ∧ FrameEnd U o U' L ck sk)
theorem enter {l : Launch} {y : MethodName} {bytes : ByteArray} {maxL : Nat} {ret : Option FieldType} {ws : List Jvm.Cond} {rm : Room} {Z : State} {as' : Array Value} {h0 : Heap} {Q : Option Value → Heap → List Loc → Prop} {ck sk : Nat} (hpl : plainFor y = true)
    (k : ∀ p e s m below meth c s₁, meth.name = y.name → meth.sig.returnType = ret → meth.locks = false → Wk p l e rm m as' below meth c y.cls bytes maxL Z NI s s₁ [] 0 0 h0 → Go p e below (NG s Q ck sk) (s₁.setTop (entryFrame m as' maxL))) :
    Con l y bytes maxL ret ws rm Z as' h0 Q ck sk := by
  refine MetFree.of_bodySF hpl hisR ?_
  intro p e s m args below meth c s₁ Bd hml0 hP hK
  obtain ⟨rfl, hZ, hh⟩ := hP
  have X0 : Stand p l e rm s m _ below meth c s₁ [] 0 0 := Stand.of_body Bd
  exact k p e s m below meth c s₁ (name_of_methodNamed Bd.named Bd.method).1 Bd.returns Bd.notSynchronized ⟨X0, by rw [← hh, Bd.state]; rfl, hZ, findClass_of_methodNamed Bd.named, Bd.exec, Bd.bytes, hml0, trivial⟩
theorem Con.back {l : Launch} {y : MethodName} {bytes : ByteArray} {maxL : Nat} {ret : Option FieldType} {rm : Room} {Z : State} {as' : Array Value} {h0 : Heap} {Q : Option Value → Heap → List Loc → Prop} (hM : Con l y bytes maxL ret [] rm Z as' h0 Q rm.cells rm.slots) {p : Program} {e : Env} {R : Room} {m : MethodId} {args : Array Value} {below : List Frame} {meth : Method} {c : Code} {own : String} {bz : ByteArray} {mL : Nat} {I : State → Heap → Prop} {s' T : State} {locs : List Loc} {cells slots : Nat} {h : Heap} {a0 : Array Value}
    (D : Wk p l e R m args below meth c own bz mL Z I s' T locs cells slots h) (W : Nat) {len : Nat} (wc : (Cond.code y bytes maxL ret).before a0 Z = true) (wz : (Cond.initialized y.cls).before a0 Z = true) (hf : rm.frames + 1 ≤ R.frames) (hl : W + (maxL + 11) + rm.locals ≤ R.locals) :
    Back l R p e below s' args y len W (fun A a => a = as' ∧ A.U.heap = h0 ∧ A.cells + rm.cells ≤ R.cells ∧ A.slots + rm.slots ≤ R.slots) (fun A _ v B => ∃ L, Q v B.U.heap L ∧ B.locs = A.locs ++ L ∧ B.cells = A.cells + rm.cells ∧ B.slots = A.slots + rm.slots) :=
  backOf hM D.wm wc wz hf hl
theorem eqr_v {args : Array Value} {Z : State} {X F : Term} {idx : List Nat} {y : Addr} (hF : F.eval args Z none idx Z = some (.ref y)) (h : (Cond.eq X F).value args Z none Z idx = some true) : X.eval args Z none idx Z = some (.ref y) := by
  obtain ⟨x, y', e1, e2, k1, k2⟩ := cmp_v (Or.inl h)
  cases hF.symm.trans e2
  have hx : x.isRef = true := k2.2
  have q := gotT (eq_R e1 hF hx rfl) h
  rw [e1, q]
theorem arv_start {Z : State} {args : Array Value} {t : Term} {a : Addr} {ty : FieldType} {n : Int32} {vs : List Value} {dv : Value} (hf : Fit Z) (ev : t.eval args Z none [] Z = some (.ref a)) (ha : (Cond.arrayOf t ty).value args Z none Z [] = some true) (hl : (Cond.eq (.length t) (.int n)).value args Z none Z [] = some true) (hn : ¬ n < 0) (hk : n.toNatClampNeg = vs.length) (H : ∀ cl : Cell, Z.heap[a]? = some cl → HasL cl 0 vs) : ∃ k, Arv Z Z.heap a k ty n vs dv := by
  obtain ⟨cl, A⟩ := Arr.start ev ha
  have q := eqv_i (Term.int_eval (n)) hl
  have q2 : cl.slots.size < 2 ^ 31 ∧ cl.slots.size.toInt32 = n := by
    have q3 := A.fin (Vm.Alike.refl _)
    simp only [Term.eval, ev, q3, Option.bind_eq_bind, Option.bind_some] at q
    split at q
    · rename_i q4; exact ⟨q4, by simpa using q⟩
    · cases q
  exact ⟨_, Arv.start hf A q2.1 q2.2 hn hk (H cl A.1)⟩
theorem w_0 : (Jvm.Cond.constant "com/example/ocotillo/ocotillo/store/MessageIndexHashPinLaw" (13 : Nat) (65535 : Int32)) ∈ tables_1 := List.mem_of_getElem? (i := 0) rfl
theorem w_1 : (Jvm.Cond.classLink "com/example/ocotillo/ocotillo/store/MessageIndexHashPinLaw" (14 : Nat) "java/lang/String") ∈ tables_1 := List.mem_of_getElem? (i := 1) rfl
theorem w_2 : (Jvm.Cond.instantiable "java/lang/String" (4 : Nat)) ∈ tables_1 := List.mem_of_getElem? (i := 2) rfl
theorem w_3 : (Jvm.Cond.initialized "java/lang/String") ∈ tables_1 := List.mem_of_getElem? (i := 3) rfl
theorem w_4 : (Jvm.Cond.arrayClass Jvm.ClassFile.FieldType.char) ∈ tables_1 := List.mem_of_getElem? (i := 4) rfl
theorem w_5 : (Jvm.Cond.methodLink "com/example/ocotillo/ocotillo/store/MessageIndexHashPinLaw" (16 : Nat) ({ cls := "java/lang/String", name := "<init>", desc := "([C)V" } : Jvm.MethodName)) ∈ tables_1 := List.mem_of_getElem? (i := 5) rfl
theorem w_6 : (Jvm.Cond.instanceMethod ({ cls := "java/lang/String", name := "<init>", desc := "([C)V" } : Jvm.MethodName)) ∈ tables_1 := List.mem_of_getElem? (i := 6) rfl
theorem w_7 : (Jvm.Cond.code ({ cls := "java/lang/String", name := "<init>", desc := "([C)V" } : Jvm.MethodName) jdk_42_method_3_code (2 : Nat) (Option.none : Option Jvm.ClassFile.FieldType)) ∈ tables_1 := List.mem_of_getElem? (i := 7) rfl
theorem w_8 : (Jvm.Cond.methodLink "java/lang/String" (27 : Nat) ({ cls := "java/lang/String", name := "<init>", desc := "([CIILjava/lang/Void;)V" } : Jvm.MethodName)) ∈ tables_1 := List.mem_of_getElem? (i := 8) rfl
theorem w_9 : (Jvm.Cond.instanceMethod ({ cls := "java/lang/String", name := "<init>", desc := "([CIILjava/lang/Void;)V" } : Jvm.MethodName)) ∈ tables_1 := List.mem_of_getElem? (i := 9) rfl
theorem w_11 : (Jvm.Cond.code ({ cls := "java/lang/String", name := "<init>", desc := "([CIILjava/lang/Void;)V" } : Jvm.MethodName) jdk_42_method_149_code (6 : Nat) (Option.none : Option Jvm.ClassFile.FieldType)) ∈ tables_1 := List.mem_of_getElem? (i := 11) rfl
theorem w_12 : (Jvm.Cond.methodLink "java/lang/String" (1 : Nat) ({ cls := "java/lang/Object", name := "<init>", desc := "()V" } : Jvm.MethodName)) ∈ tables_1 := List.mem_of_getElem? (i := 12) rfl
theorem w_13 : (Jvm.Cond.instanceMethod ({ cls := "java/lang/Object", name := "<init>", desc := "()V" } : Jvm.MethodName)) ∈ tables_1 := List.mem_of_getElem? (i := 13) rfl
theorem w_14 : (Jvm.Cond.code ({ cls := "java/lang/Object", name := "<init>", desc := "()V" } : Jvm.MethodName) object_method_1_code (1 : Nat) (Option.none : Option Jvm.ClassFile.FieldType)) ∈ tables_1 := List.mem_of_getElem? (i := 14) rfl
theorem w_15 : (Jvm.Cond.stringLink "java/lang/String" (7 : Nat) "") ∈ tables_1 := List.mem_of_getElem? (i := 15) rfl
theorem w_16 : (Jvm.Cond.arrayClass Jvm.ClassFile.FieldType.byte) ∈ tables_1 := List.mem_of_getElem? (i := 16) rfl
theorem w_17 : (Jvm.Cond.laysFinal "java/lang/String" "java/lang/String" "value" "[B") ∈ tables_1 := List.mem_of_getElem? (i := 17) rfl
theorem w_18 : (Jvm.Cond.laysFinal "java/lang/String" "java/lang/String" "coder" "B") ∈ tables_1 := List.mem_of_getElem? (i := 18) rfl
theorem w_21 : (Jvm.Cond.fieldLink "java/lang/String" (9 : Nat) "java/lang/String" "value" "[B") ∈ tables_1 := List.mem_of_getElem? (i := 21) rfl
theorem w_22 : (Jvm.Cond.fieldLink "java/lang/String" (15 : Nat) "java/lang/String" "coder" "B") ∈ tables_1 := List.mem_of_getElem? (i := 22) rfl
theorem w_23 : (Jvm.Cond.constantLong "com/example/ocotillo/ocotillo/store/MessageIndexHashPinLaw" (23 : Nat) (-3750763034362895579 : Int64)) ∈ tables_1 := List.mem_of_getElem? (i := 23) rfl
theorem w_24 : (Jvm.Cond.methodLink "com/example/ocotillo/ocotillo/store/MessageIndexHashPinLaw" (31 : Nat) ({ cls := "com/example/ocotillo/ocotillo/store/MessageIndexHashPinLaw", name := "fmix64", desc := "(J)J" } : Jvm.MethodName)) ∈ tables_1 := List.mem_of_getElem? (i := 24) rfl
theorem w_25 : (Jvm.Cond.static ({ cls := "com/example/ocotillo/ocotillo/store/MessageIndexHashPinLaw", name := "fmix64", desc := "(J)J" } : Jvm.MethodName)) ∈ tables_1 := List.mem_of_getElem? (i := 25) rfl
theorem w_26 : (Jvm.Cond.initialized "com/example/ocotillo/ocotillo/store/MessageIndexHashPinLaw") ∈ tables_1 := List.mem_of_getElem? (i := 26) rfl
theorem w_27 : (Jvm.Cond.code ({ cls := "com/example/ocotillo/ocotillo/store/MessageIndexHashPinLaw", name := "fmix64", desc := "(J)J" } : Jvm.MethodName) method_3_code (2 : Nat) (Option.some Jvm.ClassFile.FieldType.long)) ∈ tables_1 := List.mem_of_getElem? (i := 27) rfl
theorem w_28 : (Jvm.Cond.constantLong "com/example/ocotillo/ocotillo/store/MessageIndexHashPinLaw" (9 : Nat) (-49064778989728563 : Int64)) ∈ tables_1 := List.mem_of_getElem? (i := 28) rfl
theorem w_29 : (Jvm.Cond.constantLong "com/example/ocotillo/ocotillo/store/MessageIndexHashPinLaw" (11 : Nat) (-4265267296055464877 : Int64)) ∈ tables_1 := List.mem_of_getElem? (i := 29) rfl
theorem w_30 : (Jvm.Cond.methodLink "com/example/ocotillo/ocotillo/store/MessageIndexHashPinLaw" (35 : Nat) ({ cls := "com/example/ocotillo/ocotillo/store/MessageIndex", name := "hash", desc := "(Ljava/lang/String;)I" } : Jvm.MethodName)) ∈ tables_1 := List.mem_of_getElem? (i := 30) rfl
theorem w_31 : (Jvm.Cond.static ({ cls := "com/example/ocotillo/ocotillo/store/MessageIndex", name := "hash", desc := "(Ljava/lang/String;)I" } : Jvm.MethodName)) ∈ tables_1 := List.mem_of_getElem? (i := 31) rfl
theorem w_32 : (Jvm.Cond.initialized "com/example/ocotillo/ocotillo/store/MessageIndex") ∈ tables_1 := List.mem_of_getElem? (i := 32) rfl
theorem w_33 : (Jvm.Cond.code ({ cls := "com/example/ocotillo/ocotillo/store/MessageIndex", name := "hash", desc := "(Ljava/lang/String;)I" } : Jvm.MethodName) prog_21_method_10_code (4 : Nat) (Option.some Jvm.ClassFile.FieldType.int)) ∈ tables_1 := List.mem_of_getElem? (i := 33) rfl
theorem w_34 : (Jvm.Cond.constantLong "com/example/ocotillo/ocotillo/store/MessageIndex" (69 : Nat) (-3750763034362895579 : Int64)) ∈ tables_1 := List.mem_of_getElem? (i := 34) rfl
theorem w_35 : (Jvm.Cond.methodLink "com/example/ocotillo/ocotillo/store/MessageIndex" (71 : Nat) ({ cls := "java/lang/String", name := "length", desc := "()I" } : Jvm.MethodName)) ∈ tables_1 := List.mem_of_getElem? (i := 35) rfl
theorem w_36 : (Jvm.Cond.declares ({ cls := "java/lang/String", name := "length", desc := "()I" } : Jvm.MethodName)) ∈ tables_1 := List.mem_of_getElem? (i := 36) rfl
theorem w_37 : (Jvm.Cond.instanceMethod ({ cls := "java/lang/String", name := "length", desc := "()I" } : Jvm.MethodName)) ∈ tables_1 := List.mem_of_getElem? (i := 37) rfl
theorem w_38 : (Jvm.Cond.selects "java/lang/String" ({ cls := "java/lang/String", name := "length", desc := "()I" } : Jvm.MethodName) ({ cls := "java/lang/String", name := "length", desc := "()I" } : Jvm.MethodName)) ∈ tables_1 := List.mem_of_getElem? (i := 38) rfl
theorem w_45 : (Jvm.Cond.fieldLink "java/lang/String" (38 : Nat) "java/lang/String" "COMPACT_STRINGS" "Z") ∈ tables_1 := List.mem_of_getElem? (i := 45) rfl
theorem w_46 : (Jvm.Cond.constantLong "com/example/ocotillo/ocotillo/store/MessageIndex" (81 : Nat) (-49064778989728563 : Int64)) ∈ tables_1 := List.mem_of_getElem? (i := 46) rfl
theorem w_47 : (Jvm.Cond.constantLong "com/example/ocotillo/ocotillo/store/MessageIndex" (83 : Nat) (-4265267296055464877 : Int64)) ∈ tables_1 := List.mem_of_getElem? (i := 47) rfl
theorem w_48 : (Jvm.Cond.methodLink "java/lang/String" (177 : Nat) ({ cls := "java/lang/StringUTF16", name := "compress", desc := "([CII)[B" } : Jvm.MethodName)) ∈ tables_1 := List.mem_of_getElem? (i := 48) rfl
theorem w_49 : (Jvm.Cond.static ({ cls := "java/lang/StringUTF16", name := "compress", desc := "([CII)[B" } : Jvm.MethodName)) ∈ tables_1 := List.mem_of_getElem? (i := 49) rfl
theorem w_50 : (Jvm.Cond.initialized "java/lang/StringUTF16") ∈ tables_1 := List.mem_of_getElem? (i := 50) rfl
theorem w_51 : (Jvm.Cond.code ({ cls := "java/lang/StringUTF16", name := "compress", desc := "([CII)[B" } : Jvm.MethodName) jdk_52_method_16_code (6 : Nat) (Option.some (Jvm.ClassFile.FieldType.array Jvm.ClassFile.FieldType.byte))) ∈ tables_1 := List.mem_of_getElem? (i := 51) rfl
theorem w_52 : (Jvm.Cond.methodLink "java/lang/StringUTF16" (115 : Nat) ({ cls := "java/lang/StringUTF16", name := "compress", desc := "([CI[BII)I" } : Jvm.MethodName)) ∈ tables_1 := List.mem_of_getElem? (i := 52) rfl
theorem w_53 : (Jvm.Cond.static ({ cls := "java/lang/StringUTF16", name := "compress", desc := "([CI[BII)I" } : Jvm.MethodName)) ∈ tables_1 := List.mem_of_getElem? (i := 53) rfl
theorem w_54 : (Jvm.Cond.code ({ cls := "java/lang/StringUTF16", name := "compress", desc := "([CI[BII)I" } : Jvm.MethodName) jdk_52_method_21_code (7 : Nat) (Option.some Jvm.ClassFile.FieldType.int)) ∈ tables_1 := List.mem_of_getElem? (i := 54) rfl
theorem w_55 : (Jvm.Cond.methodLink "java/lang/String" (47 : Nat) ({ cls := "java/lang/StringUTF16", name := "coderFromArrayLen", desc := "([BI)B" } : Jvm.MethodName)) ∈ tables_1 := List.mem_of_getElem? (i := 55) rfl
theorem w_56 : (Jvm.Cond.static ({ cls := "java/lang/StringUTF16", name := "coderFromArrayLen", desc := "([BI)B" } : Jvm.MethodName)) ∈ tables_1 := List.mem_of_getElem? (i := 56) rfl
theorem w_57 : (Jvm.Cond.code ({ cls := "java/lang/StringUTF16", name := "coderFromArrayLen", desc := "([BI)B" } : Jvm.MethodName) jdk_52_method_15_code (2 : Nat) (Option.some Jvm.ClassFile.FieldType.byte)) ∈ tables_1 := List.mem_of_getElem? (i := 57) rfl
theorem w_58 : (Jvm.Cond.methodLink "com/example/ocotillo/ocotillo/store/MessageIndexHashPinLaw" (25 : Nat) ({ cls := "com/example/ocotillo/ocotillo/store/MessageIndexHashPinLaw", name := "fnvStep", desc := "(JC)J" } : Jvm.MethodName)) ∈ tables_1 := List.mem_of_getElem? (i := 58) rfl
theorem w_59 : (Jvm.Cond.static ({ cls := "com/example/ocotillo/ocotillo/store/MessageIndexHashPinLaw", name := "fnvStep", desc := "(JC)J" } : Jvm.MethodName)) ∈ tables_1 := List.mem_of_getElem? (i := 59) rfl
theorem w_60 : (Jvm.Cond.code ({ cls := "com/example/ocotillo/ocotillo/store/MessageIndexHashPinLaw", name := "fnvStep", desc := "(JC)J" } : Jvm.MethodName) method_2_code (3 : Nat) (Option.some Jvm.ClassFile.FieldType.long)) ∈ tables_1 := List.mem_of_getElem? (i := 60) rfl
theorem w_61 : (Jvm.Cond.constantLong "com/example/ocotillo/ocotillo/store/MessageIndexHashPinLaw" (7 : Nat) (1099511628211 : Int64)) ∈ tables_1 := List.mem_of_getElem? (i := 61) rfl
theorem w_62 : (Jvm.Cond.methodLink "com/example/ocotillo/ocotillo/store/MessageIndex" (75 : Nat) ({ cls := "java/lang/String", name := "charAt", desc := "(I)C" } : Jvm.MethodName)) ∈ tables_1 := List.mem_of_getElem? (i := 62) rfl
theorem w_63 : (Jvm.Cond.declares ({ cls := "java/lang/String", name := "charAt", desc := "(I)C" } : Jvm.MethodName)) ∈ tables_1 := List.mem_of_getElem? (i := 63) rfl
theorem w_64 : (Jvm.Cond.instanceMethod ({ cls := "java/lang/String", name := "charAt", desc := "(I)C" } : Jvm.MethodName)) ∈ tables_1 := List.mem_of_getElem? (i := 64) rfl
theorem w_65 : (Jvm.Cond.selects "java/lang/String" ({ cls := "java/lang/String", name := "charAt", desc := "(I)C" } : Jvm.MethodName) ({ cls := "java/lang/String", name := "charAt", desc := "(I)C" } : Jvm.MethodName)) ∈ tables_1 := List.mem_of_getElem? (i := 65) rfl
theorem w_66 : (Jvm.Cond.code ({ cls := "java/lang/String", name := "charAt", desc := "(I)C" } : Jvm.MethodName) jdk_42_method_56_code (2 : Nat) (Option.some Jvm.ClassFile.FieldType.char)) ∈ tables_1 := List.mem_of_getElem? (i := 66) rfl
theorem w_67 : (Jvm.Cond.methodLink "java/lang/String" (492 : Nat) ({ cls := "java/lang/String", name := "isLatin1", desc := "()Z" } : Jvm.MethodName)) ∈ tables_1 := List.mem_of_getElem? (i := 67) rfl
theorem w_68 : (Jvm.Cond.declares ({ cls := "java/lang/String", name := "isLatin1", desc := "()Z" } : Jvm.MethodName)) ∈ tables_1 := List.mem_of_getElem? (i := 68) rfl
theorem w_69 : (Jvm.Cond.instanceMethod ({ cls := "java/lang/String", name := "isLatin1", desc := "()Z" } : Jvm.MethodName)) ∈ tables_1 := List.mem_of_getElem? (i := 69) rfl
theorem w_70 : (Jvm.Cond.selects "java/lang/String" ({ cls := "java/lang/String", name := "isLatin1", desc := "()Z" } : Jvm.MethodName) ({ cls := "java/lang/String", name := "isLatin1", desc := "()Z" } : Jvm.MethodName)) ∈ tables_1 := List.mem_of_getElem? (i := 70) rfl
theorem w_71 : (Jvm.Cond.code ({ cls := "java/lang/String", name := "isLatin1", desc := "()Z" } : Jvm.MethodName) jdk_42_method_154_code (1 : Nat) (Option.some Jvm.ClassFile.FieldType.boolean)) ∈ tables_1 := List.mem_of_getElem? (i := 71) rfl
theorem w_72 : (Jvm.Cond.methodLink "java/lang/String" (495 : Nat) ({ cls := "java/lang/StringLatin1", name := "charAt", desc := "([BI)C" } : Jvm.MethodName)) ∈ tables_1 := List.mem_of_getElem? (i := 72) rfl
theorem w_73 : (Jvm.Cond.static ({ cls := "java/lang/StringLatin1", name := "charAt", desc := "([BI)C" } : Jvm.MethodName)) ∈ tables_1 := List.mem_of_getElem? (i := 73) rfl
theorem w_74 : (Jvm.Cond.initialized "java/lang/StringLatin1") ∈ tables_1 := List.mem_of_getElem? (i := 74) rfl
theorem w_75 : (Jvm.Cond.code ({ cls := "java/lang/StringLatin1", name := "charAt", desc := "([BI)C" } : Jvm.MethodName) jdk_43_method_2_code (2 : Nat) (Option.some Jvm.ClassFile.FieldType.char)) ∈ tables_1 := List.mem_of_getElem? (i := 75) rfl
theorem w_76 : (Jvm.Cond.methodLink "java/lang/StringLatin1" (9 : Nat) ({ cls := "java/lang/String", name := "checkIndex", desc := "(II)V" } : Jvm.MethodName)) ∈ tables_1 := List.mem_of_getElem? (i := 76) rfl
theorem w_77 : (Jvm.Cond.static ({ cls := "java/lang/String", name := "checkIndex", desc := "(II)V" } : Jvm.MethodName)) ∈ tables_1 := List.mem_of_getElem? (i := 77) rfl
theorem w_78 : (Jvm.Cond.code ({ cls := "java/lang/String", name := "checkIndex", desc := "(II)V" } : Jvm.MethodName) jdk_42_method_155_code (2 : Nat) (Option.none : Option Jvm.ClassFile.FieldType)) ∈ tables_1 := List.mem_of_getElem? (i := 78) rfl
theorem w_79 : (Jvm.Cond.fieldLink "java/lang/String" (1053 : Nat) "jdk/internal/util/Preconditions" "SIOOBE_FORMATTER" "Ljava/util/function/BiFunction;") ∈ tables_1 := List.mem_of_getElem? (i := 79) rfl
theorem w_80 : (Jvm.Cond.initialized "jdk/internal/util/Preconditions") ∈ tables_1 := List.mem_of_getElem? (i := 80) rfl
theorem w_81 : (Jvm.Cond.methodLink "java/lang/String" (1059 : Nat) ({ cls := "jdk/internal/util/Preconditions", name := "checkIndex", desc := "(IILjava/util/function/BiFunction;)I" } : Jvm.MethodName)) ∈ tables_1 := List.mem_of_getElem? (i := 81) rfl
theorem w_82 : (Jvm.Cond.static ({ cls := "jdk/internal/util/Preconditions", name := "checkIndex", desc := "(IILjava/util/function/BiFunction;)I" } : Jvm.MethodName)) ∈ tables_1 := List.mem_of_getElem? (i := 82) rfl
theorem w_83 : (Jvm.Cond.code ({ cls := "jdk/internal/util/Preconditions", name := "checkIndex", desc := "(IILjava/util/function/BiFunction;)I" } : Jvm.MethodName) jdk_41_method_11_code (3 : Nat) (Option.some Jvm.ClassFile.FieldType.int)) ∈ tables_1 := List.mem_of_getElem? (i := 83) rfl
theorem w_84 : (Jvm.Cond.constantLong "com/example/ocotillo/ocotillo/store/MessageIndex" (79 : Nat) (1099511628211 : Int64)) ∈ tables_1 := List.mem_of_getElem? (i := 84) rfl
theorem w_85 : (Jvm.Cond.methodLink "java/lang/StringUTF16" (119 : Nat) ({ cls := "java/lang/StringUTF16", name := "toBytes", desc := "([CII)[B" } : Jvm.MethodName)) ∈ tables_1 := List.mem_of_getElem? (i := 85) rfl
theorem w_86 : (Jvm.Cond.static ({ cls := "java/lang/StringUTF16", name := "toBytes", desc := "([CII)[B" } : Jvm.MethodName)) ∈ tables_1 := List.mem_of_getElem? (i := 86) rfl
theorem w_87 : (Jvm.Cond.code ({ cls := "java/lang/StringUTF16", name := "toBytes", desc := "([CII)[B" } : Jvm.MethodName) jdk_52_method_14_code (5 : Nat) (Option.some (Jvm.ClassFile.FieldType.array Jvm.ClassFile.FieldType.byte))) ∈ tables_1 := List.mem_of_getElem? (i := 87) rfl
theorem w_88 : (Jvm.Cond.methodLink "java/lang/StringUTF16" (107 : Nat) ({ cls := "java/lang/StringUTF16", name := "newBytesFor", desc := "(I)[B" } : Jvm.MethodName)) ∈ tables_1 := List.mem_of_getElem? (i := 88) rfl
theorem w_89 : (Jvm.Cond.static ({ cls := "java/lang/StringUTF16", name := "newBytesFor", desc := "(I)[B" } : Jvm.MethodName)) ∈ tables_1 := List.mem_of_getElem? (i := 89) rfl
theorem w_90 : (Jvm.Cond.code ({ cls := "java/lang/StringUTF16", name := "newBytesFor", desc := "(I)[B" } : Jvm.MethodName) jdk_52_method_2_code (1 : Nat) (Option.some (Jvm.ClassFile.FieldType.array Jvm.ClassFile.FieldType.byte))) ∈ tables_1 := List.mem_of_getElem? (i := 90) rfl
theorem w_91 : (Jvm.Cond.methodLink "java/lang/StringUTF16" (11 : Nat) ({ cls := "java/lang/StringUTF16", name := "newBytesLength", desc := "(I)I" } : Jvm.MethodName)) ∈ tables_1 := List.mem_of_getElem? (i := 91) rfl
theorem w_92 : (Jvm.Cond.static ({ cls := "java/lang/StringUTF16", name := "newBytesLength", desc := "(I)I" } : Jvm.MethodName)) ∈ tables_1 := List.mem_of_getElem? (i := 92) rfl
theorem w_93 : (Jvm.Cond.code ({ cls := "java/lang/StringUTF16", name := "newBytesLength", desc := "(I)I" } : Jvm.MethodName) jdk_52_method_3_code (1 : Nat) (Option.some Jvm.ClassFile.FieldType.int)) ∈ tables_1 := List.mem_of_getElem? (i := 93) rfl
theorem w_94 : (Jvm.Cond.constant "java/lang/StringUTF16" (20 : Nat) (1073741823 : Int32)) ∈ tables_1 := List.mem_of_getElem? (i := 94) rfl
theorem w_95 : (Jvm.Cond.methodLink "java/lang/StringUTF16" (111 : Nat) ({ cls := "java/lang/StringUTF16", name := "putChar", desc := "([BII)V" } : Jvm.MethodName)) ∈ tables_1 := List.mem_of_getElem? (i := 95) rfl
theorem w_96 : (Jvm.Cond.static ({ cls := "java/lang/StringUTF16", name := "putChar", desc := "([BII)V" } : Jvm.MethodName)) ∈ tables_1 := List.mem_of_getElem? (i := 96) rfl
theorem w_97 : (Jvm.Cond.code ({ cls := "java/lang/StringUTF16", name := "putChar", desc := "([BII)V" } : Jvm.MethodName) jdk_52_method_4_code (3 : Nat) (Option.none : Option Jvm.ClassFile.FieldType)) ∈ tables_1 := List.mem_of_getElem? (i := 97) rfl
theorem w_98 : (Jvm.Cond.fieldLink "java/lang/StringUTF16" (44 : Nat) "java/lang/StringUTF16" "$assertionsDisabled" "Z") ∈ tables_1 := List.mem_of_getElem? (i := 98) rfl
theorem w_99 : (Jvm.Cond.fieldLink "java/lang/StringUTF16" (59 : Nat) "java/lang/StringUTF16" "HI_BYTE_SHIFT" "I") ∈ tables_1 := List.mem_of_getElem? (i := 99) rfl
theorem w_100 : (Jvm.Cond.fieldLink "java/lang/StringUTF16" (63 : Nat) "java/lang/StringUTF16" "LO_BYTE_SHIFT" "I") ∈ tables_1 := List.mem_of_getElem? (i := 100) rfl
theorem w_101 : (Jvm.Cond.methodLink "java/lang/StringUTF16" (71 : Nat) ({ cls := "java/lang/StringUTF16", name := "getChar", desc := "([BI)C" } : Jvm.MethodName)) ∈ tables_1 := List.mem_of_getElem? (i := 101) rfl
theorem w_102 : (Jvm.Cond.static ({ cls := "java/lang/StringUTF16", name := "getChar", desc := "([BI)C" } : Jvm.MethodName)) ∈ tables_1 := List.mem_of_getElem? (i := 102) rfl
theorem w_103 : (Jvm.Cond.code ({ cls := "java/lang/StringUTF16", name := "getChar", desc := "([BI)C" } : Jvm.MethodName) jdk_52_method_5_code (2 : Nat) (Option.some Jvm.ClassFile.FieldType.char)) ∈ tables_1 := List.mem_of_getElem? (i := 103) rfl
theorem w_104 : (Jvm.Cond.methodLink "java/lang/String" (498 : Nat) ({ cls := "java/lang/StringUTF16", name := "charAt", desc := "([BI)C" } : Jvm.MethodName)) ∈ tables_1 := List.mem_of_getElem? (i := 104) rfl
theorem w_105 : (Jvm.Cond.static ({ cls := "java/lang/StringUTF16", name := "charAt", desc := "([BI)C" } : Jvm.MethodName)) ∈ tables_1 := List.mem_of_getElem? (i := 105) rfl
theorem w_106 : (Jvm.Cond.code ({ cls := "java/lang/StringUTF16", name := "charAt", desc := "([BI)C" } : Jvm.MethodName) jdk_52_method_83_code (2 : Nat) (Option.some Jvm.ClassFile.FieldType.char)) ∈ tables_1 := List.mem_of_getElem? (i := 106) rfl
theorem w_107 : (Jvm.Cond.methodLink "java/lang/StringUTF16" (67 : Nat) ({ cls := "java/lang/StringUTF16", name := "checkIndex", desc := "(I[B)V" } : Jvm.MethodName)) ∈ tables_1 := List.mem_of_getElem? (i := 107) rfl
theorem w_108 : (Jvm.Cond.static ({ cls := "java/lang/StringUTF16", name := "checkIndex", desc := "(I[B)V" } : Jvm.MethodName)) ∈ tables_1 := List.mem_of_getElem? (i := 108) rfl
theorem w_109 : (Jvm.Cond.code ({ cls := "java/lang/StringUTF16", name := "checkIndex", desc := "(I[B)V" } : Jvm.MethodName) jdk_52_method_91_code (2 : Nat) (Option.none : Option Jvm.ClassFile.FieldType)) ∈ tables_1 := List.mem_of_getElem? (i := 109) rfl
theorem w_110 : (Jvm.Cond.methodLink "java/lang/StringUTF16" (48 : Nat) ({ cls := "java/lang/StringUTF16", name := "length", desc := "([B)I" } : Jvm.MethodName)) ∈ tables_1 := List.mem_of_getElem? (i := 110) rfl
theorem w_111 : (Jvm.Cond.static ({ cls := "java/lang/StringUTF16", name := "length", desc := "([B)I" } : Jvm.MethodName)) ∈ tables_1 := List.mem_of_getElem? (i := 111) rfl
theorem w_112 : (Jvm.Cond.code ({ cls := "java/lang/StringUTF16", name := "length", desc := "([B)I" } : Jvm.MethodName) jdk_52_method_6_code (1 : Nat) (Option.some Jvm.ClassFile.FieldType.int)) ∈ tables_1 := List.mem_of_getElem? (i := 112) rfl
theorem w_113 : (Jvm.Cond.methodLink "java/lang/StringUTF16" (414 : Nat) ({ cls := "java/lang/String", name := "checkIndex", desc := "(II)V" } : Jvm.MethodName)) ∈ tables_1 := List.mem_of_getElem? (i := 113) rfl
theorem w_114 : (Jvm.Cond.methodLink "com/example/ocotillo/ocotillo/store/MessageIndexHashPinLaw" (19 : Nat) ({ cls := "java/lang/String", name := "valueOf", desc := "(C)Ljava/lang/String;" } : Jvm.MethodName)) ∈ tables_1 := List.mem_of_getElem? (i := 114) rfl
theorem w_115 : (Jvm.Cond.static ({ cls := "java/lang/String", name := "valueOf", desc := "(C)Ljava/lang/String;" } : Jvm.MethodName)) ∈ tables_1 := List.mem_of_getElem? (i := 115) rfl
theorem w_116 : (Jvm.Cond.code ({ cls := "java/lang/String", name := "valueOf", desc := "(C)Ljava/lang/String;" } : Jvm.MethodName) jdk_42_method_139_code (1 : Nat) (Option.some (Jvm.ClassFile.FieldType.object "java/lang/String"))) ∈ tables_1 := List.mem_of_getElem? (i := 116) rfl
theorem w_117 : (Jvm.Cond.methodLink "java/lang/String" (1015 : Nat) ({ cls := "java/lang/StringLatin1", name := "canEncode", desc := "(C)Z" } : Jvm.MethodName)) ∈ tables_1 := List.mem_of_getElem? (i := 117) rfl
theorem w_118 : (Jvm.Cond.static ({ cls := "java/lang/StringLatin1", name := "canEncode", desc := "(C)Z" } : Jvm.MethodName)) ∈ tables_1 := List.mem_of_getElem? (i := 118) rfl
theorem w_119 : (Jvm.Cond.code ({ cls := "java/lang/StringLatin1", name := "canEncode", desc := "(C)Z" } : Jvm.MethodName) jdk_43_method_3_code (1 : Nat) (Option.some Jvm.ClassFile.FieldType.boolean)) ∈ tables_1 := List.mem_of_getElem? (i := 119) rfl
theorem w_120 : (Jvm.Cond.classLink "java/lang/String" (10 : Nat) "java/lang/String") ∈ tables_1 := List.mem_of_getElem? (i := 120) rfl
theorem w_121 : (Jvm.Cond.methodLink "java/lang/String" (1018 : Nat) ({ cls := "java/lang/StringLatin1", name := "toBytes", desc := "(C)[B" } : Jvm.MethodName)) ∈ tables_1 := List.mem_of_getElem? (i := 121) rfl
theorem w_122 : (Jvm.Cond.static ({ cls := "java/lang/StringLatin1", name := "toBytes", desc := "(C)[B" } : Jvm.MethodName)) ∈ tables_1 := List.mem_of_getElem? (i := 122) rfl
theorem w_123 : (Jvm.Cond.code ({ cls := "java/lang/StringLatin1", name := "toBytes", desc := "(C)[B" } : Jvm.MethodName) jdk_43_method_46_code (1 : Nat) (Option.some (Jvm.ClassFile.FieldType.array Jvm.ClassFile.FieldType.byte))) ∈ tables_1 := List.mem_of_getElem? (i := 123) rfl
theorem w_124 : (Jvm.Cond.methodLink "java/lang/String" (209 : Nat) ({ cls := "java/lang/String", name := "<init>", desc := "([BB)V" } : Jvm.MethodName)) ∈ tables_1 := List.mem_of_getElem? (i := 124) rfl
theorem w_125 : (Jvm.Cond.instanceMethod ({ cls := "java/lang/String", name := "<init>", desc := "([BB)V" } : Jvm.MethodName)) ∈ tables_1 := List.mem_of_getElem? (i := 125) rfl
theorem w_126 : (Jvm.Cond.code ({ cls := "java/lang/String", name := "<init>", desc := "([BB)V" } : Jvm.MethodName) jdk_42_method_151_code (3 : Nat) (Option.none : Option Jvm.ClassFile.FieldType)) ∈ tables_1 := List.mem_of_getElem? (i := 126) rfl
theorem w_127 : (Jvm.Cond.methodLink "java/lang/String" (1021 : Nat) ({ cls := "java/lang/StringUTF16", name := "toBytes", desc := "(C)[B" } : Jvm.MethodName)) ∈ tables_1 := List.mem_of_getElem? (i := 127) rfl
theorem w_128 : (Jvm.Cond.static ({ cls := "java/lang/StringUTF16", name := "toBytes", desc := "(C)[B" } : Jvm.MethodName)) ∈ tables_1 := List.mem_of_getElem? (i := 128) rfl
theorem w_129 : (Jvm.Cond.code ({ cls := "java/lang/StringUTF16", name := "toBytes", desc := "(C)[B" } : Jvm.MethodName) jdk_52_method_24_code (2 : Nat) (Option.some (Jvm.ClassFile.FieldType.array Jvm.ClassFile.FieldType.byte))) ∈ tables_1 := List.mem_of_getElem? (i := 129) rfl
theorem d_jdk_52m4_0 : decode jdk_52_method_4_code 0 = .ok (.getstatic 44, 3) := by decide +kernel
theorem d_jdk_52m4_3 : decode jdk_52_method_4_code 3 = .ok (.ifCond .ne 25, 3) := by decide +kernel
theorem d_jdk_52m4_28 : decode jdk_52_method_4_code 28 = .ok (.iload_n 1, 1) := by decide +kernel
theorem d_jdk_52m4_29 : decode jdk_52_method_4_code 29 = .ok (.iconst 1, 1) := by decide +kernel
theorem d_jdk_52m4_30 : decode jdk_52_method_4_code 30 = .ok (.ishl, 1) := by decide +kernel
theorem d_jdk_52m4_31 : decode jdk_52_method_4_code 31 = .ok (.istore_n 1, 1) := by decide +kernel
theorem d_jdk_52m4_32 : decode jdk_52_method_4_code 32 = .ok (.aload_n 0, 1) := by decide +kernel
theorem d_jdk_52m4_33 : decode jdk_52_method_4_code 33 = .ok (.iload_n 1, 1) := by decide +kernel
theorem d_jdk_52m4_34 : decode jdk_52_method_4_code 34 = .ok (.iinc 1 1, 3) := by decide +kernel
theorem d_jdk_52m4_37 : decode jdk_52_method_4_code 37 = .ok (.iload_n 2, 1) := by decide +kernel
theorem d_jdk_52m4_38 : decode jdk_52_method_4_code 38 = .ok (.getstatic 59, 3) := by decide +kernel
theorem d_jdk_52m4_41 : decode jdk_52_method_4_code 41 = .ok (.ishr, 1) := by decide +kernel
theorem d_jdk_52m4_42 : decode jdk_52_method_4_code 42 = .ok (.i2b, 1) := by decide +kernel
theorem d_jdk_52m4_43 : decode jdk_52_method_4_code 43 = .ok (.bastore, 1) := by decide +kernel
theorem d_jdk_52m4_44 : decode jdk_52_method_4_code 44 = .ok (.aload_n 0, 1) := by decide +kernel
theorem d_jdk_52m4_45 : decode jdk_52_method_4_code 45 = .ok (.iload_n 1, 1) := by decide +kernel
theorem d_jdk_52m4_46 : decode jdk_52_method_4_code 46 = .ok (.iload_n 2, 1) := by decide +kernel
theorem d_jdk_52m4_47 : decode jdk_52_method_4_code 47 = .ok (.getstatic 63, 3) := by decide +kernel
theorem d_jdk_52m4_50 : decode jdk_52_method_4_code 50 = .ok (.ishr, 1) := by decide +kernel
theorem d_jdk_52m4_51 : decode jdk_52_method_4_code 51 = .ok (.i2b, 1) := by decide +kernel
theorem d_jdk_52m4_52 : decode jdk_52_method_4_code 52 = .ok (.bastore, 1) := by decide +kernel
theorem d_jdk_52m4_53 : decode jdk_52_method_4_code 53 = .ok (.return_, 1) := by decide +kernel
theorem d_jdk_52m5_0 : decode jdk_52_method_5_code 0 = .ok (.getstatic 44, 3) := by decide +kernel
theorem d_jdk_52m5_3 : decode jdk_52_method_5_code 3 = .ok (.ifCond .ne 25, 3) := by decide +kernel
theorem d_jdk_52m5_28 : decode jdk_52_method_5_code 28 = .ok (.iload_n 1, 1) := by decide +kernel
theorem d_jdk_52m5_29 : decode jdk_52_method_5_code 29 = .ok (.iconst 1, 1) := by decide +kernel
theorem d_jdk_52m5_30 : decode jdk_52_method_5_code 30 = .ok (.ishl, 1) := by decide +kernel
theorem d_jdk_52m5_31 : decode jdk_52_method_5_code 31 = .ok (.istore_n 1, 1) := by decide +kernel
theorem d_jdk_52m5_32 : decode jdk_52_method_5_code 32 = .ok (.aload_n 0, 1) := by decide +kernel
theorem d_jdk_52m5_33 : decode jdk_52_method_5_code 33 = .ok (.iload_n 1, 1) := by decide +kernel
theorem d_jdk_52m5_34 : decode jdk_52_method_5_code 34 = .ok (.iinc 1 1, 3) := by decide +kernel
theorem d_jdk_52m5_37 : decode jdk_52_method_5_code 37 = .ok (.baload, 1) := by decide +kernel
theorem d_jdk_52m5_38 : decode jdk_52_method_5_code 38 = .ok (.sipush 255, 3) := by decide +kernel
theorem d_jdk_52m5_41 : decode jdk_52_method_5_code 41 = .ok (.iand, 1) := by decide +kernel
theorem d_jdk_52m5_42 : decode jdk_52_method_5_code 42 = .ok (.getstatic 59, 3) := by decide +kernel
theorem d_jdk_52m5_45 : decode jdk_52_method_5_code 45 = .ok (.ishl, 1) := by decide +kernel
theorem d_jdk_52m5_46 : decode jdk_52_method_5_code 46 = .ok (.aload_n 0, 1) := by decide +kernel
theorem d_jdk_52m5_47 : decode jdk_52_method_5_code 47 = .ok (.iload_n 1, 1) := by decide +kernel
theorem d_jdk_52m5_48 : decode jdk_52_method_5_code 48 = .ok (.baload, 1) := by decide +kernel
theorem d_jdk_52m5_49 : decode jdk_52_method_5_code 49 = .ok (.sipush 255, 3) := by decide +kernel
theorem d_jdk_52m5_52 : decode jdk_52_method_5_code 52 = .ok (.iand, 1) := by decide +kernel
theorem d_jdk_52m5_53 : decode jdk_52_method_5_code 53 = .ok (.getstatic 63, 3) := by decide +kernel
theorem d_jdk_52m5_56 : decode jdk_52_method_5_code 56 = .ok (.ishl, 1) := by decide +kernel
theorem d_jdk_52m5_57 : decode jdk_52_method_5_code 57 = .ok (.ior, 1) := by decide +kernel
theorem d_jdk_52m5_58 : decode jdk_52_method_5_code 58 = .ok (.i2c, 1) := by decide +kernel
theorem d_jdk_52m5_59 : decode jdk_52_method_5_code 59 = .ok (.ireturn, 1) := by decide +kernel
theorem d_jdk_52m3_0 : decode jdk_52_method_3_code 0 = .ok (.iload_n 0, 1) := by decide +kernel
theorem d_jdk_52m3_1 : decode jdk_52_method_3_code 1 = .ok (.ifCond .ge 11, 3) := by decide +kernel
theorem d_jdk_52m3_12 : decode jdk_52_method_3_code 12 = .ok (.iload_n 0, 1) := by decide +kernel
theorem d_jdk_52m3_13 : decode jdk_52_method_3_code 13 = .ok (.ldc 20, 2) := by decide +kernel
theorem d_jdk_52m3_15 : decode jdk_52_method_3_code 15 = .ok (.if_icmp .lt 40, 3) := by decide +kernel
theorem d_jdk_52m3_55 : decode jdk_52_method_3_code 55 = .ok (.iload_n 0, 1) := by decide +kernel
theorem d_jdk_52m3_56 : decode jdk_52_method_3_code 56 = .ok (.iconst 1, 1) := by decide +kernel
theorem d_jdk_52m3_57 : decode jdk_52_method_3_code 57 = .ok (.ishl, 1) := by decide +kernel
theorem d_jdk_52m3_58 : decode jdk_52_method_3_code 58 = .ok (.ireturn, 1) := by decide +kernel
theorem d_jdk_52m2_0 : decode jdk_52_method_2_code 0 = .ok (.iload_n 0, 1) := by decide +kernel
theorem d_jdk_52m2_1 : decode jdk_52_method_2_code 1 = .ok (.invokestatic 11, 3) := by decide +kernel
theorem d_jdk_52m2_4 : decode jdk_52_method_2_code 4 = .ok (.newarray .byte, 2) := by decide +kernel
theorem d_jdk_52m2_6 : decode jdk_52_method_2_code 6 = .ok (.areturn, 1) := by decide +kernel
theorem d_jdk_52m14_0 : decode jdk_52_method_14_code 0 = .ok (.iload_n 2, 1) := by decide +kernel
theorem d_jdk_52m14_1 : decode jdk_52_method_14_code 1 = .ok (.invokestatic 107, 3) := by decide +kernel
theorem d_jdk_52m14_4 : decode jdk_52_method_14_code 4 = .ok (.astore_n 3, 1) := by decide +kernel
theorem d_jdk_52m14_5 : decode jdk_52_method_14_code 5 = .ok (.iconst 0, 1) := by decide +kernel
theorem d_jdk_52m14_6 : decode jdk_52_method_14_code 6 = .ok (.istore 4, 2) := by decide +kernel
theorem d_jdk_52m14_8 : decode jdk_52_method_14_code 8 = .ok (.iload 4, 2) := by decide +kernel
theorem d_jdk_52m14_10 : decode jdk_52_method_14_code 10 = .ok (.iload_n 2, 1) := by decide +kernel
theorem d_jdk_52m14_11 : decode jdk_52_method_14_code 11 = .ok (.if_icmp .ge 21, 3) := by decide +kernel
theorem d_jdk_52m14_14 : decode jdk_52_method_14_code 14 = .ok (.aload_n 3, 1) := by decide +kernel
theorem d_jdk_52m14_15 : decode jdk_52_method_14_code 15 = .ok (.iload 4, 2) := by decide +kernel
theorem d_jdk_52m14_17 : decode jdk_52_method_14_code 17 = .ok (.aload_n 0, 1) := by decide +kernel
theorem d_jdk_52m14_18 : decode jdk_52_method_14_code 18 = .ok (.iload_n 1, 1) := by decide +kernel
theorem d_jdk_52m14_19 : decode jdk_52_method_14_code 19 = .ok (.caload, 1) := by decide +kernel
theorem d_jdk_52m14_20 : decode jdk_52_method_14_code 20 = .ok (.invokestatic 111, 3) := by decide +kernel
theorem d_jdk_52m14_23 : decode jdk_52_method_14_code 23 = .ok (.iinc 1 1, 3) := by decide +kernel
theorem d_jdk_52m14_26 : decode jdk_52_method_14_code 26 = .ok (.iinc 4 1, 3) := by decide +kernel
theorem d_jdk_52m14_29 : decode jdk_52_method_14_code 29 = .ok (.goto (-21), 3) := by decide +kernel
theorem d_jdk_52m14_32 : decode jdk_52_method_14_code 32 = .ok (.aload_n 3, 1) := by decide +kernel
theorem d_jdk_52m14_33 : decode jdk_52_method_14_code 33 = .ok (.areturn, 1) := by decide +kernel
theorem d_jdk_52m21_0 : decode jdk_52_method_21_code 0 = .ok (.iconst 0, 1) := by decide +kernel
theorem d_jdk_52m21_1 : decode jdk_52_method_21_code 1 = .ok (.istore 5, 2) := by decide +kernel
theorem d_jdk_52m21_3 : decode jdk_52_method_21_code 3 = .ok (.iload 5, 2) := by decide +kernel
theorem d_jdk_52m21_5 : decode jdk_52_method_21_code 5 = .ok (.iload 4, 2) := by decide +kernel
theorem d_jdk_52m21_7 : decode jdk_52_method_21_code 7 = .ok (.if_icmp .ge 37, 3) := by decide +kernel
theorem d_jdk_52m21_10 : decode jdk_52_method_21_code 10 = .ok (.aload_n 0, 1) := by decide +kernel
theorem d_jdk_52m21_11 : decode jdk_52_method_21_code 11 = .ok (.iload_n 1, 1) := by decide +kernel
theorem d_jdk_52m21_12 : decode jdk_52_method_21_code 12 = .ok (.caload, 1) := by decide +kernel
theorem d_jdk_52m21_13 : decode jdk_52_method_21_code 13 = .ok (.istore 6, 2) := by decide +kernel
theorem d_jdk_52m21_15 : decode jdk_52_method_21_code 15 = .ok (.iload 6, 2) := by decide +kernel
theorem d_jdk_52m21_17 : decode jdk_52_method_21_code 17 = .ok (.sipush 255, 3) := by decide +kernel
theorem d_jdk_52m21_20 : decode jdk_52_method_21_code 20 = .ok (.if_icmp .le 6, 3) := by decide +kernel
theorem d_jdk_52m21_23 : decode jdk_52_method_21_code 23 = .ok (.iload 5, 2) := by decide +kernel
theorem d_jdk_52m21_25 : decode jdk_52_method_21_code 25 = .ok (.ireturn, 1) := by decide +kernel
theorem d_jdk_52m21_26 : decode jdk_52_method_21_code 26 = .ok (.aload_n 2, 1) := by decide +kernel
theorem d_jdk_52m21_27 : decode jdk_52_method_21_code 27 = .ok (.iload_n 3, 1) := by decide +kernel
theorem d_jdk_52m21_28 : decode jdk_52_method_21_code 28 = .ok (.iload 6, 2) := by decide +kernel
theorem d_jdk_52m21_30 : decode jdk_52_method_21_code 30 = .ok (.i2b, 1) := by decide +kernel
theorem d_jdk_52m21_31 : decode jdk_52_method_21_code 31 = .ok (.bastore, 1) := by decide +kernel
theorem d_jdk_52m21_32 : decode jdk_52_method_21_code 32 = .ok (.iinc 1 1, 3) := by decide +kernel
theorem d_jdk_52m21_35 : decode jdk_52_method_21_code 35 = .ok (.iinc 3 1, 3) := by decide +kernel
theorem d_jdk_52m21_38 : decode jdk_52_method_21_code 38 = .ok (.iinc 5 1, 3) := by decide +kernel
theorem d_jdk_52m21_41 : decode jdk_52_method_21_code 41 = .ok (.goto (-38), 3) := by decide +kernel
theorem d_jdk_52m21_44 : decode jdk_52_method_21_code 44 = .ok (.iload 4, 2) := by decide +kernel
theorem d_jdk_52m21_46 : decode jdk_52_method_21_code 46 = .ok (.ireturn, 1) := by decide +kernel
theorem d_jdk_52m16_0 : decode jdk_52_method_16_code 0 = .ok (.iload_n 2, 1) := by decide +kernel
theorem d_jdk_52m16_1 : decode jdk_52_method_16_code 1 = .ok (.newarray .byte, 2) := by decide +kernel
theorem d_jdk_52m16_3 : decode jdk_52_method_16_code 3 = .ok (.astore_n 3, 1) := by decide +kernel
theorem d_jdk_52m16_4 : decode jdk_52_method_16_code 4 = .ok (.aload_n 0, 1) := by decide +kernel
theorem d_jdk_52m16_5 : decode jdk_52_method_16_code 5 = .ok (.iload_n 1, 1) := by decide +kernel
theorem d_jdk_52m16_6 : decode jdk_52_method_16_code 6 = .ok (.aload_n 3, 1) := by decide +kernel
theorem d_jdk_52m16_7 : decode jdk_52_method_16_code 7 = .ok (.iconst 0, 1) := by decide +kernel
theorem d_jdk_52m16_8 : decode jdk_52_method_16_code 8 = .ok (.iload_n 2, 1) := by decide +kernel
theorem d_jdk_52m16_9 : decode jdk_52_method_16_code 9 = .ok (.invokestatic 115, 3) := by decide +kernel
theorem d_jdk_52m16_12 : decode jdk_52_method_16_code 12 = .ok (.istore 4, 2) := by decide +kernel
theorem d_jdk_52m16_14 : decode jdk_52_method_16_code 14 = .ok (.iload 4, 2) := by decide +kernel
theorem d_jdk_52m16_16 : decode jdk_52_method_16_code 16 = .ok (.iload_n 2, 1) := by decide +kernel
theorem d_jdk_52m16_17 : decode jdk_52_method_16_code 17 = .ok (.if_icmp .eq 40, 3) := by decide +kernel
theorem d_jdk_52m16_20 : decode jdk_52_method_16_code 20 = .ok (.aload_n 0, 1) := by decide +kernel
theorem d_jdk_52m16_21 : decode jdk_52_method_16_code 21 = .ok (.iload_n 1, 1) := by decide +kernel
theorem d_jdk_52m16_22 : decode jdk_52_method_16_code 22 = .ok (.iload_n 2, 1) := by decide +kernel
theorem d_jdk_52m16_23 : decode jdk_52_method_16_code 23 = .ok (.invokestatic 119, 3) := by decide +kernel
theorem d_jdk_52m16_26 : decode jdk_52_method_16_code 26 = .ok (.astore 5, 2) := by decide +kernel
theorem d_jdk_52m16_28 : decode jdk_52_method_16_code 28 = .ok (.aload 5, 2) := by decide +kernel
theorem d_jdk_52m16_30 : decode jdk_52_method_16_code 30 = .ok (.iload 4, 2) := by decide +kernel
theorem d_jdk_52m16_32 : decode jdk_52_method_16_code 32 = .ok (.invokestatic 71, 3) := by decide +kernel
theorem d_jdk_52m16_35 : decode jdk_52_method_16_code 35 = .ok (.sipush 255, 3) := by decide +kernel
theorem d_jdk_52m16_38 : decode jdk_52_method_16_code 38 = .ok (.if_icmp .gt 16, 3) := by decide +kernel
theorem d_jdk_52m16_54 : decode jdk_52_method_16_code 54 = .ok (.aload 5, 2) := by decide +kernel
theorem d_jdk_52m16_56 : decode jdk_52_method_16_code 56 = .ok (.areturn, 1) := by decide +kernel
theorem d_jdk_52m16_57 : decode jdk_52_method_16_code 57 = .ok (.aload_n 3, 1) := by decide +kernel
theorem d_jdk_52m16_58 : decode jdk_52_method_16_code 58 = .ok (.areturn, 1) := by decide +kernel
theorem d_jdk_52m15_0 : decode jdk_52_method_15_code 0 = .ok (.iload_n 1, 1) := by decide +kernel
theorem d_jdk_52m15_1 : decode jdk_52_method_15_code 1 = .ok (.aload_n 0, 1) := by decide +kernel
theorem d_jdk_52m15_2 : decode jdk_52_method_15_code 2 = .ok (.arraylength, 1) := by decide +kernel
theorem d_jdk_52m15_3 : decode jdk_52_method_15_code 3 = .ok (.isub, 1) := by decide +kernel
theorem d_jdk_52m15_4 : decode jdk_52_method_15_code 4 = .ok (.bipush 31, 2) := by decide +kernel
theorem d_jdk_52m15_6 : decode jdk_52_method_15_code 6 = .ok (.iushr, 1) := by decide +kernel
theorem d_jdk_52m15_7 : decode jdk_52_method_15_code 7 = .ok (.i2b, 1) := by decide +kernel
theorem d_jdk_52m15_8 : decode jdk_52_method_15_code 8 = .ok (.ireturn, 1) := by decide +kernel
theorem d_jdk_42m149_0 : decode jdk_42_method_149_code 0 = .ok (.aload_n 0, 1) := by decide +kernel
theorem d_jdk_42m149_1 : decode jdk_42_method_149_code 1 = .ok (.invokespecial 1, 3) := by decide +kernel
theorem d_jdk_42m149_4 : decode jdk_42_method_149_code 4 = .ok (.iload_n 3, 1) := by decide +kernel
theorem d_jdk_42m149_5 : decode jdk_42_method_149_code 5 = .ok (.ifCond .ne 22, 3) := by decide +kernel
theorem d_jdk_42m149_27 : decode jdk_42_method_149_code 27 = .ok (.getstatic 38, 3) := by decide +kernel
theorem d_jdk_42m149_30 : decode jdk_42_method_149_code 30 = .ok (.ifCond .eq 28, 3) := by decide +kernel
theorem d_jdk_42m149_33 : decode jdk_42_method_149_code 33 = .ok (.aload_n 1, 1) := by decide +kernel
theorem d_jdk_42m149_34 : decode jdk_42_method_149_code 34 = .ok (.iload_n 2, 1) := by decide +kernel
theorem d_jdk_42m149_35 : decode jdk_42_method_149_code 35 = .ok (.iload_n 3, 1) := by decide +kernel
theorem d_jdk_42m149_36 : decode jdk_42_method_149_code 36 = .ok (.invokestatic 177, 3) := by decide +kernel
theorem d_jdk_42m149_39 : decode jdk_42_method_149_code 39 = .ok (.astore 5, 2) := by decide +kernel
theorem d_jdk_42m149_41 : decode jdk_42_method_149_code 41 = .ok (.aload_n 0, 1) := by decide +kernel
theorem d_jdk_42m149_42 : decode jdk_42_method_149_code 42 = .ok (.aload 5, 2) := by decide +kernel
theorem d_jdk_42m149_44 : decode jdk_42_method_149_code 44 = .ok (.iload_n 3, 1) := by decide +kernel
theorem d_jdk_42m149_45 : decode jdk_42_method_149_code 45 = .ok (.invokestatic 47, 3) := by decide +kernel
theorem d_jdk_42m149_48 : decode jdk_42_method_149_code 48 = .ok (.putfield 15, 3) := by decide +kernel
theorem d_jdk_42m149_51 : decode jdk_42_method_149_code 51 = .ok (.aload_n 0, 1) := by decide +kernel
theorem d_jdk_42m149_52 : decode jdk_42_method_149_code 52 = .ok (.aload 5, 2) := by decide +kernel
theorem d_jdk_42m149_54 : decode jdk_42_method_149_code 54 = .ok (.putfield 9, 3) := by decide +kernel
theorem d_jdk_42m149_57 : decode jdk_42_method_149_code 57 = .ok (.return_, 1) := by decide +kernel
theorem d_jdk_42m3_0 : decode jdk_42_method_3_code 0 = .ok (.aload_n 0, 1) := by decide +kernel
theorem d_jdk_42m3_1 : decode jdk_42_method_3_code 1 = .ok (.aload_n 1, 1) := by decide +kernel
theorem d_jdk_42m3_2 : decode jdk_42_method_3_code 2 = .ok (.iconst 0, 1) := by decide +kernel
theorem d_jdk_42m3_3 : decode jdk_42_method_3_code 3 = .ok (.aload_n 1, 1) := by decide +kernel
theorem d_jdk_42m3_4 : decode jdk_42_method_3_code 4 = .ok (.arraylength, 1) := by decide +kernel
theorem d_jdk_42m3_5 : decode jdk_42_method_3_code 5 = .ok (.aconst_null, 1) := by decide +kernel
theorem d_jdk_42m3_6 : decode jdk_42_method_3_code 6 = .ok (.invokespecial 27, 3) := by decide +kernel
theorem d_jdk_42m3_9 : decode jdk_42_method_3_code 9 = .ok (.return_, 1) := by decide +kernel
theorem d_jdk_42m149_8 : decode jdk_42_method_149_code 8 = .ok (.aload_n 0, 1) := by decide +kernel
theorem d_jdk_42m149_9 : decode jdk_42_method_149_code 9 = .ok (.ldc 7, 2) := by decide +kernel
theorem d_jdk_42m149_11 : decode jdk_42_method_149_code 11 = .ok (.getfield 9, 3) := by decide +kernel
theorem d_jdk_42m149_14 : decode jdk_42_method_149_code 14 = .ok (.putfield 9, 3) := by decide +kernel
theorem d_jdk_42m149_17 : decode jdk_42_method_149_code 17 = .ok (.aload_n 0, 1) := by decide +kernel
theorem d_jdk_42m149_18 : decode jdk_42_method_149_code 18 = .ok (.ldc 7, 2) := by decide +kernel
theorem d_jdk_42m149_20 : decode jdk_42_method_149_code 20 = .ok (.getfield 15, 3) := by decide +kernel
theorem d_jdk_42m149_23 : decode jdk_42_method_149_code 23 = .ok (.putfield 15, 3) := by decide +kernel
theorem d_jdk_42m149_26 : decode jdk_42_method_149_code 26 = .ok (.return_, 1) := by decide +kernel
theorem d_jdk_42m154_0 : decode jdk_42_method_154_code 0 = .ok (.getstatic 38, 3) := by decide +kernel
theorem d_jdk_42m154_3 : decode jdk_42_method_154_code 3 = .ok (.ifCond .eq 14, 3) := by decide +kernel
theorem d_jdk_42m154_6 : decode jdk_42_method_154_code 6 = .ok (.aload_n 0, 1) := by decide +kernel
theorem d_jdk_42m154_7 : decode jdk_42_method_154_code 7 = .ok (.getfield 15, 3) := by decide +kernel
theorem d_jdk_42m154_10 : decode jdk_42_method_154_code 10 = .ok (.ifCond .ne 7, 3) := by decide +kernel
theorem d_jdk_42m154_13 : decode jdk_42_method_154_code 13 = .ok (.iconst 1, 1) := by decide +kernel
theorem d_jdk_42m154_14 : decode jdk_42_method_154_code 14 = .ok (.goto 4, 3) := by decide +kernel
theorem d_jdk_42m154_18 : decode jdk_42_method_154_code 18 = .ok (.ireturn, 1) := by decide +kernel
theorem d_jdk_42m154_17 : decode jdk_42_method_154_code 17 = .ok (.iconst 0, 1) := by decide +kernel
theorem d_jdk_52m6_0 : decode jdk_52_method_6_code 0 = .ok (.aload_n 0, 1) := by decide +kernel
theorem d_jdk_52m6_1 : decode jdk_52_method_6_code 1 = .ok (.arraylength, 1) := by decide +kernel
theorem d_jdk_52m6_2 : decode jdk_52_method_6_code 2 = .ok (.iconst 1, 1) := by decide +kernel
theorem d_jdk_52m6_3 : decode jdk_52_method_6_code 3 = .ok (.ishr, 1) := by decide +kernel
theorem d_jdk_52m6_4 : decode jdk_52_method_6_code 4 = .ok (.ireturn, 1) := by decide +kernel
theorem d_jdk_41m11_0 : decode jdk_41_method_11_code 0 = .ok (.iload_n 0, 1) := by decide +kernel
theorem d_jdk_41m11_1 : decode jdk_41_method_11_code 1 = .ok (.ifCond .lt 8, 3) := by decide +kernel
theorem d_jdk_41m11_4 : decode jdk_41_method_11_code 4 = .ok (.iload_n 0, 1) := by decide +kernel
theorem d_jdk_41m11_5 : decode jdk_41_method_11_code 5 = .ok (.iload_n 1, 1) := by decide +kernel
theorem d_jdk_41m11_6 : decode jdk_41_method_11_code 6 = .ok (.if_icmp .lt 10, 3) := by decide +kernel
theorem d_jdk_41m11_16 : decode jdk_41_method_11_code 16 = .ok (.iload_n 0, 1) := by decide +kernel
theorem d_jdk_41m11_17 : decode jdk_41_method_11_code 17 = .ok (.ireturn, 1) := by decide +kernel
theorem d_jdk_42m155_0 : decode jdk_42_method_155_code 0 = .ok (.iload_n 0, 1) := by decide +kernel
theorem d_jdk_42m155_1 : decode jdk_42_method_155_code 1 = .ok (.iload_n 1, 1) := by decide +kernel
theorem d_jdk_42m155_2 : decode jdk_42_method_155_code 2 = .ok (.getstatic 1053, 3) := by decide +kernel
theorem d_jdk_42m155_5 : decode jdk_42_method_155_code 5 = .ok (.invokestatic 1059, 3) := by decide +kernel
theorem d_jdk_42m155_8 : decode jdk_42_method_155_code 8 = .ok (.pop, 1) := by decide +kernel
theorem d_jdk_42m155_9 : decode jdk_42_method_155_code 9 = .ok (.return_, 1) := by decide +kernel
theorem d_jdk_43m2_0 : decode jdk_43_method_2_code 0 = .ok (.iload_n 1, 1) := by decide +kernel
theorem d_jdk_43m2_1 : decode jdk_43_method_2_code 1 = .ok (.aload_n 0, 1) := by decide +kernel
theorem d_jdk_43m2_2 : decode jdk_43_method_2_code 2 = .ok (.arraylength, 1) := by decide +kernel
theorem d_jdk_43m2_3 : decode jdk_43_method_2_code 3 = .ok (.invokestatic 9, 3) := by decide +kernel
theorem d_jdk_43m2_6 : decode jdk_43_method_2_code 6 = .ok (.aload_n 0, 1) := by decide +kernel
theorem d_jdk_43m2_7 : decode jdk_43_method_2_code 7 = .ok (.iload_n 1, 1) := by decide +kernel
theorem d_jdk_43m2_8 : decode jdk_43_method_2_code 8 = .ok (.baload, 1) := by decide +kernel
theorem d_jdk_43m2_9 : decode jdk_43_method_2_code 9 = .ok (.sipush 255, 3) := by decide +kernel
theorem d_jdk_43m2_12 : decode jdk_43_method_2_code 12 = .ok (.iand, 1) := by decide +kernel
theorem d_jdk_43m2_13 : decode jdk_43_method_2_code 13 = .ok (.i2c, 1) := by decide +kernel
theorem d_jdk_43m2_14 : decode jdk_43_method_2_code 14 = .ok (.ireturn, 1) := by decide +kernel
theorem d_jdk_52m91_0 : decode jdk_52_method_91_code 0 = .ok (.iload_n 0, 1) := by decide +kernel
theorem d_jdk_52m91_1 : decode jdk_52_method_91_code 1 = .ok (.aload_n 1, 1) := by decide +kernel
theorem d_jdk_52m91_2 : decode jdk_52_method_91_code 2 = .ok (.invokestatic 48, 3) := by decide +kernel
theorem d_jdk_52m91_5 : decode jdk_52_method_91_code 5 = .ok (.invokestatic 414, 3) := by decide +kernel
theorem d_jdk_52m91_8 : decode jdk_52_method_91_code 8 = .ok (.return_, 1) := by decide +kernel
theorem d_jdk_52m83_0 : decode jdk_52_method_83_code 0 = .ok (.iload_n 1, 1) := by decide +kernel
theorem d_jdk_52m83_1 : decode jdk_52_method_83_code 1 = .ok (.aload_n 0, 1) := by decide +kernel
theorem d_jdk_52m83_2 : decode jdk_52_method_83_code 2 = .ok (.invokestatic 67, 3) := by decide +kernel
theorem d_jdk_52m83_5 : decode jdk_52_method_83_code 5 = .ok (.aload_n 0, 1) := by decide +kernel
theorem d_jdk_52m83_6 : decode jdk_52_method_83_code 6 = .ok (.iload_n 1, 1) := by decide +kernel
theorem d_jdk_52m83_7 : decode jdk_52_method_83_code 7 = .ok (.invokestatic 71, 3) := by decide +kernel
theorem d_jdk_52m83_10 : decode jdk_52_method_83_code 10 = .ok (.ireturn, 1) := by decide +kernel
theorem d_jdk_42m56_0 : decode jdk_42_method_56_code 0 = .ok (.aload_n 0, 1) := by decide +kernel
theorem d_jdk_42m56_1 : decode jdk_42_method_56_code 1 = .ok (.invokevirtual 492, 3) := by decide +kernel
theorem d_jdk_42m56_4 : decode jdk_42_method_56_code 4 = .ok (.ifCond .eq 12, 3) := by decide +kernel
theorem d_jdk_42m56_7 : decode jdk_42_method_56_code 7 = .ok (.aload_n 0, 1) := by decide +kernel
theorem d_jdk_42m56_8 : decode jdk_42_method_56_code 8 = .ok (.getfield 9, 3) := by decide +kernel
theorem d_jdk_42m56_11 : decode jdk_42_method_56_code 11 = .ok (.iload_n 1, 1) := by decide +kernel
theorem d_jdk_42m56_12 : decode jdk_42_method_56_code 12 = .ok (.invokestatic 495, 3) := by decide +kernel
theorem d_jdk_42m56_15 : decode jdk_42_method_56_code 15 = .ok (.ireturn, 1) := by decide +kernel
theorem d_jdk_42m56_16 : decode jdk_42_method_56_code 16 = .ok (.aload_n 0, 1) := by decide +kernel
theorem d_jdk_42m56_17 : decode jdk_42_method_56_code 17 = .ok (.getfield 9, 3) := by decide +kernel
theorem d_jdk_42m56_20 : decode jdk_42_method_56_code 20 = .ok (.iload_n 1, 1) := by decide +kernel
theorem d_jdk_42m56_21 : decode jdk_42_method_56_code 21 = .ok (.invokestatic 498, 3) := by decide +kernel
theorem d_jdk_42m56_24 : decode jdk_42_method_56_code 24 = .ok (.ireturn, 1) := by decide +kernel
theorem d_jdk_43m3_0 : decode jdk_43_method_3_code 0 = .ok (.iload_n 0, 1) := by decide +kernel
theorem d_jdk_43m3_1 : decode jdk_43_method_3_code 1 = .ok (.sipush 255, 3) := by decide +kernel
theorem d_jdk_43m3_4 : decode jdk_43_method_3_code 4 = .ok (.if_icmp .gt 7, 3) := by decide +kernel
theorem d_jdk_43m3_7 : decode jdk_43_method_3_code 7 = .ok (.iconst 1, 1) := by decide +kernel
theorem d_jdk_43m3_8 : decode jdk_43_method_3_code 8 = .ok (.goto 4, 3) := by decide +kernel
theorem d_jdk_43m3_12 : decode jdk_43_method_3_code 12 = .ok (.ireturn, 1) := by decide +kernel
theorem d_jdk_43m3_11 : decode jdk_43_method_3_code 11 = .ok (.iconst 0, 1) := by decide +kernel
theorem d_jdk_43m46_0 : decode jdk_43_method_46_code 0 = .ok (.iconst 1, 1) := by decide +kernel
theorem d_jdk_43m46_1 : decode jdk_43_method_46_code 1 = .ok (.newarray .byte, 2) := by decide +kernel
theorem d_jdk_43m46_3 : decode jdk_43_method_46_code 3 = .ok (.dup, 1) := by decide +kernel
theorem d_jdk_43m46_4 : decode jdk_43_method_46_code 4 = .ok (.iconst 0, 1) := by decide +kernel
theorem d_jdk_43m46_5 : decode jdk_43_method_46_code 5 = .ok (.iload_n 0, 1) := by decide +kernel
theorem d_jdk_43m46_6 : decode jdk_43_method_46_code 6 = .ok (.i2b, 1) := by decide +kernel
theorem d_jdk_43m46_7 : decode jdk_43_method_46_code 7 = .ok (.bastore, 1) := by decide +kernel
theorem d_jdk_43m46_8 : decode jdk_43_method_46_code 8 = .ok (.areturn, 1) := by decide +kernel
theorem d_jdk_52m24_0 : decode jdk_52_method_24_code 0 = .ok (.iconst 2, 1) := by decide +kernel
theorem d_jdk_52m24_1 : decode jdk_52_method_24_code 1 = .ok (.newarray .byte, 2) := by decide +kernel
theorem d_jdk_52m24_3 : decode jdk_52_method_24_code 3 = .ok (.astore_n 1, 1) := by decide +kernel
theorem d_jdk_52m24_4 : decode jdk_52_method_24_code 4 = .ok (.aload_n 1, 1) := by decide +kernel
theorem d_jdk_52m24_5 : decode jdk_52_method_24_code 5 = .ok (.iconst 0, 1) := by decide +kernel
theorem d_jdk_52m24_6 : decode jdk_52_method_24_code 6 = .ok (.iload_n 0, 1) := by decide +kernel
theorem d_jdk_52m24_7 : decode jdk_52_method_24_code 7 = .ok (.invokestatic 111, 3) := by decide +kernel
theorem d_jdk_52m24_10 : decode jdk_52_method_24_code 10 = .ok (.aload_n 1, 1) := by decide +kernel
theorem d_jdk_52m24_11 : decode jdk_52_method_24_code 11 = .ok (.areturn, 1) := by decide +kernel
theorem d_jdk_42m151_0 : decode jdk_42_method_151_code 0 = .ok (.aload_n 0, 1) := by decide +kernel
theorem d_jdk_42m151_1 : decode jdk_42_method_151_code 1 = .ok (.invokespecial 1, 3) := by decide +kernel
theorem d_jdk_42m151_4 : decode jdk_42_method_151_code 4 = .ok (.aload_n 0, 1) := by decide +kernel
theorem d_jdk_42m151_5 : decode jdk_42_method_151_code 5 = .ok (.aload_n 1, 1) := by decide +kernel
theorem d_jdk_42m151_6 : decode jdk_42_method_151_code 6 = .ok (.putfield 9, 3) := by decide +kernel
theorem d_jdk_42m151_9 : decode jdk_42_method_151_code 9 = .ok (.aload_n 0, 1) := by decide +kernel
theorem d_jdk_42m151_10 : decode jdk_42_method_151_code 10 = .ok (.iload_n 2, 1) := by decide +kernel
theorem d_jdk_42m151_11 : decode jdk_42_method_151_code 11 = .ok (.putfield 15, 3) := by decide +kernel
theorem d_jdk_42m151_14 : decode jdk_42_method_151_code 14 = .ok (.return_, 1) := by decide +kernel
theorem d_jdk_42m139_0 : decode jdk_42_method_139_code 0 = .ok (.getstatic 38, 3) := by decide +kernel
theorem d_jdk_42m139_3 : decode jdk_42_method_139_code 3 = .ok (.ifCond .eq 23, 3) := by decide +kernel
theorem d_jdk_42m139_6 : decode jdk_42_method_139_code 6 = .ok (.iload_n 0, 1) := by decide +kernel
theorem d_jdk_42m139_7 : decode jdk_42_method_139_code 7 = .ok (.invokestatic 1015, 3) := by decide +kernel
theorem d_jdk_42m139_10 : decode jdk_42_method_139_code 10 = .ok (.ifCond .eq 16, 3) := by decide +kernel
theorem d_jdk_42m139_26 : decode jdk_42_method_139_code 26 = .ok (.new 10, 3) := by decide +kernel
theorem d_jdk_42m139_29 : decode jdk_42_method_139_code 29 = .ok (.dup, 1) := by decide +kernel
theorem d_jdk_42m139_30 : decode jdk_42_method_139_code 30 = .ok (.iload_n 0, 1) := by decide +kernel
theorem d_jdk_42m139_31 : decode jdk_42_method_139_code 31 = .ok (.invokestatic 1021, 3) := by decide +kernel
theorem d_jdk_42m139_34 : decode jdk_42_method_139_code 34 = .ok (.iconst 1, 1) := by decide +kernel
theorem d_jdk_42m139_35 : decode jdk_42_method_139_code 35 = .ok (.invokespecial 209, 3) := by decide +kernel
theorem d_jdk_42m139_38 : decode jdk_42_method_139_code 38 = .ok (.areturn, 1) := by decide +kernel
theorem d_jdk_42m139_13 : decode jdk_42_method_139_code 13 = .ok (.new 10, 3) := by decide +kernel
theorem d_jdk_42m139_16 : decode jdk_42_method_139_code 16 = .ok (.dup, 1) := by decide +kernel
theorem d_jdk_42m139_17 : decode jdk_42_method_139_code 17 = .ok (.iload_n 0, 1) := by decide +kernel
theorem d_jdk_42m139_18 : decode jdk_42_method_139_code 18 = .ok (.invokestatic 1018, 3) := by decide +kernel
theorem d_jdk_42m139_21 : decode jdk_42_method_139_code 21 = .ok (.iconst 0, 1) := by decide +kernel
theorem d_jdk_42m139_22 : decode jdk_42_method_139_code 22 = .ok (.invokespecial 209, 3) := by decide +kernel
theorem d_jdk_42m139_25 : decode jdk_42_method_139_code 25 = .ok (.areturn, 1) := by decide +kernel
theorem d_method_2_0 : decode method_2_code 0 = .ok (.lload_n 0, 1) := by decide +kernel
theorem d_method_2_1 : decode method_2_code 1 = .ok (.iload_n 2, 1) := by decide +kernel
theorem d_method_2_2 : decode method_2_code 2 = .ok (.i2l, 1) := by decide +kernel
theorem d_method_2_3 : decode method_2_code 3 = .ok (.lxor, 1) := by decide +kernel
theorem d_method_2_4 : decode method_2_code 4 = .ok (.ldc2_w 7, 3) := by decide +kernel
theorem d_method_2_7 : decode method_2_code 7 = .ok (.lmul, 1) := by decide +kernel
theorem d_method_2_8 : decode method_2_code 8 = .ok (.lreturn, 1) := by decide +kernel
theorem d_method_3_0 : decode method_3_code 0 = .ok (.lload_n 0, 1) := by decide +kernel
theorem d_method_3_1 : decode method_3_code 1 = .ok (.lload_n 0, 1) := by decide +kernel
theorem d_method_3_2 : decode method_3_code 2 = .ok (.bipush 33, 2) := by decide +kernel
theorem d_method_3_4 : decode method_3_code 4 = .ok (.lushr, 1) := by decide +kernel
theorem d_method_3_5 : decode method_3_code 5 = .ok (.lxor, 1) := by decide +kernel
theorem d_method_3_6 : decode method_3_code 6 = .ok (.lstore_n 0, 1) := by decide +kernel
theorem d_method_3_7 : decode method_3_code 7 = .ok (.lload_n 0, 1) := by decide +kernel
theorem d_method_3_8 : decode method_3_code 8 = .ok (.ldc2_w 9, 3) := by decide +kernel
theorem d_method_3_11 : decode method_3_code 11 = .ok (.lmul, 1) := by decide +kernel
theorem d_method_3_12 : decode method_3_code 12 = .ok (.lstore_n 0, 1) := by decide +kernel
theorem d_method_3_13 : decode method_3_code 13 = .ok (.lload_n 0, 1) := by decide +kernel
theorem d_method_3_14 : decode method_3_code 14 = .ok (.lload_n 0, 1) := by decide +kernel
theorem d_method_3_15 : decode method_3_code 15 = .ok (.bipush 33, 2) := by decide +kernel
theorem d_method_3_17 : decode method_3_code 17 = .ok (.lushr, 1) := by decide +kernel
theorem d_method_3_18 : decode method_3_code 18 = .ok (.lxor, 1) := by decide +kernel
theorem d_method_3_19 : decode method_3_code 19 = .ok (.lstore_n 0, 1) := by decide +kernel
theorem d_method_3_20 : decode method_3_code 20 = .ok (.lload_n 0, 1) := by decide +kernel
theorem d_method_3_21 : decode method_3_code 21 = .ok (.ldc2_w 11, 3) := by decide +kernel
theorem d_method_3_24 : decode method_3_code 24 = .ok (.lmul, 1) := by decide +kernel
theorem d_method_3_25 : decode method_3_code 25 = .ok (.lstore_n 0, 1) := by decide +kernel
theorem d_method_3_26 : decode method_3_code 26 = .ok (.lload_n 0, 1) := by decide +kernel
theorem d_method_3_27 : decode method_3_code 27 = .ok (.lload_n 0, 1) := by decide +kernel
theorem d_method_3_28 : decode method_3_code 28 = .ok (.bipush 33, 2) := by decide +kernel
theorem d_method_3_30 : decode method_3_code 30 = .ok (.lushr, 1) := by decide +kernel
theorem d_method_3_31 : decode method_3_code 31 = .ok (.lxor, 1) := by decide +kernel
theorem d_method_3_32 : decode method_3_code 32 = .ok (.lstore_n 0, 1) := by decide +kernel
theorem d_method_3_33 : decode method_3_code 33 = .ok (.lload_n 0, 1) := by decide +kernel
theorem d_method_3_34 : decode method_3_code 34 = .ok (.lreturn, 1) := by decide +kernel
theorem d_prog_21m10_0 : decode prog_21_method_10_code 0 = .ok (.ldc2_w 69, 3) := by decide +kernel
theorem d_prog_21m10_3 : decode prog_21_method_10_code 3 = .ok (.lstore_n 1, 1) := by decide +kernel
theorem d_prog_21m10_4 : decode prog_21_method_10_code 4 = .ok (.iconst 0, 1) := by decide +kernel
theorem d_prog_21m10_5 : decode prog_21_method_10_code 5 = .ok (.istore_n 3, 1) := by decide +kernel
theorem d_prog_21m10_6 : decode prog_21_method_10_code 6 = .ok (.iload_n 3, 1) := by decide +kernel
theorem d_prog_21m10_7 : decode prog_21_method_10_code 7 = .ok (.aload_n 0, 1) := by decide +kernel
theorem d_prog_21m10_8 : decode prog_21_method_10_code 8 = .ok (.invokevirtual 71, 3) := by decide +kernel
theorem d_prog_21m10_11 : decode prog_21_method_10_code 11 = .ok (.if_icmp .ge 22, 3) := by decide +kernel
theorem d_prog_21m10_33 : decode prog_21_method_10_code 33 = .ok (.lload_n 1, 1) := by decide +kernel
theorem d_prog_21m10_34 : decode prog_21_method_10_code 34 = .ok (.lload_n 1, 1) := by decide +kernel
theorem d_prog_21m10_35 : decode prog_21_method_10_code 35 = .ok (.bipush 33, 2) := by decide +kernel
theorem d_prog_21m10_37 : decode prog_21_method_10_code 37 = .ok (.lushr, 1) := by decide +kernel
theorem d_prog_21m10_38 : decode prog_21_method_10_code 38 = .ok (.lxor, 1) := by decide +kernel
theorem d_prog_21m10_39 : decode prog_21_method_10_code 39 = .ok (.ldc2_w 81, 3) := by decide +kernel
theorem d_prog_21m10_42 : decode prog_21_method_10_code 42 = .ok (.lmul, 1) := by decide +kernel
theorem d_prog_21m10_43 : decode prog_21_method_10_code 43 = .ok (.lstore_n 1, 1) := by decide +kernel
theorem d_prog_21m10_44 : decode prog_21_method_10_code 44 = .ok (.lload_n 1, 1) := by decide +kernel
theorem d_prog_21m10_45 : decode prog_21_method_10_code 45 = .ok (.lload_n 1, 1) := by decide +kernel
theorem d_prog_21m10_46 : decode prog_21_method_10_code 46 = .ok (.bipush 33, 2) := by decide +kernel
theorem d_prog_21m10_48 : decode prog_21_method_10_code 48 = .ok (.lushr, 1) := by decide +kernel
theorem d_prog_21m10_49 : decode prog_21_method_10_code 49 = .ok (.lxor, 1) := by decide +kernel
theorem d_prog_21m10_50 : decode prog_21_method_10_code 50 = .ok (.ldc2_w 83, 3) := by decide +kernel
theorem d_prog_21m10_53 : decode prog_21_method_10_code 53 = .ok (.lmul, 1) := by decide +kernel
theorem d_prog_21m10_54 : decode prog_21_method_10_code 54 = .ok (.lstore_n 1, 1) := by decide +kernel
theorem d_prog_21m10_55 : decode prog_21_method_10_code 55 = .ok (.lload_n 1, 1) := by decide +kernel
theorem d_prog_21m10_56 : decode prog_21_method_10_code 56 = .ok (.lload_n 1, 1) := by decide +kernel
theorem d_prog_21m10_57 : decode prog_21_method_10_code 57 = .ok (.bipush 33, 2) := by decide +kernel
theorem d_prog_21m10_59 : decode prog_21_method_10_code 59 = .ok (.lushr, 1) := by decide +kernel
theorem d_prog_21m10_60 : decode prog_21_method_10_code 60 = .ok (.lxor, 1) := by decide +kernel
theorem d_prog_21m10_61 : decode prog_21_method_10_code 61 = .ok (.l2i, 1) := by decide +kernel
theorem d_prog_21m10_62 : decode prog_21_method_10_code 62 = .ok (.istore_n 3, 1) := by decide +kernel
theorem d_prog_21m10_63 : decode prog_21_method_10_code 63 = .ok (.iload_n 3, 1) := by decide +kernel
theorem d_prog_21m10_64 : decode prog_21_method_10_code 64 = .ok (.ifCond .ne 7, 3) := by decide +kernel
theorem d_prog_21m10_67 : decode prog_21_method_10_code 67 = .ok (.iconst 1, 1) := by decide +kernel
theorem d_prog_21m10_68 : decode prog_21_method_10_code 68 = .ok (.goto 4, 3) := by decide +kernel
theorem d_prog_21m10_72 : decode prog_21_method_10_code 72 = .ok (.ireturn, 1) := by decide +kernel
theorem d_prog_21m10_71 : decode prog_21_method_10_code 71 = .ok (.iload_n 3, 1) := by decide +kernel
theorem d_prog_21m10_14 : decode prog_21_method_10_code 14 = .ok (.lload_n 1, 1) := by decide +kernel
theorem d_prog_21m10_15 : decode prog_21_method_10_code 15 = .ok (.aload_n 0, 1) := by decide +kernel
theorem d_prog_21m10_16 : decode prog_21_method_10_code 16 = .ok (.iload_n 3, 1) := by decide +kernel
theorem d_prog_21m10_17 : decode prog_21_method_10_code 17 = .ok (.invokevirtual 75, 3) := by decide +kernel
theorem d_prog_21m10_20 : decode prog_21_method_10_code 20 = .ok (.i2l, 1) := by decide +kernel
theorem d_prog_21m10_21 : decode prog_21_method_10_code 21 = .ok (.lxor, 1) := by decide +kernel
theorem d_prog_21m10_22 : decode prog_21_method_10_code 22 = .ok (.ldc2_w 79, 3) := by decide +kernel
theorem d_prog_21m10_25 : decode prog_21_method_10_code 25 = .ok (.lmul, 1) := by decide +kernel
theorem d_prog_21m10_26 : decode prog_21_method_10_code 26 = .ok (.lstore_n 1, 1) := by decide +kernel
theorem d_prog_21m10_27 : decode prog_21_method_10_code 27 = .ok (.iinc 3 1, 3) := by decide +kernel
theorem d_prog_21m10_30 : decode prog_21_method_10_code 30 = .ok (.goto (-24), 3) := by decide +kernel
theorem pn_0 : plainName "java/lang/StringUTF16" = true := by first | (simp [plainName, overriddenIn]; done) | decide +kernel
theorem pn_1 : plainName "java/lang/String" = true := by first | (simp [plainName, overriddenIn]; done) | decide +kernel
theorem pn_2 : plainName "jdk/internal/util/Preconditions" = true := by first | (simp [plainName, overriddenIn]; done) | decide +kernel
theorem pn_3 : plainName "java/lang/StringLatin1" = true := by first | (simp [plainName, overriddenIn]; done) | decide +kernel
theorem pn_4 : plainName "com/example/ocotillo/ocotillo/store/MessageIndexHashPinLaw" = true := by first | (simp [plainName, overriddenIn]; done) | decide +kernel
theorem pn_5 : plainName "com/example/ocotillo/ocotillo/store/MessageIndex" = true := by first | (simp [plainName, overriddenIn]; done) | decide +kernel
theorem pd_0 : parseMethodDescriptor "(I)I" = some ⟨[.int], some .int⟩ := by decide +kernel
theorem pd_1 : parseMethodDescriptor "(I)[B" = some ⟨[.int], some (.array .byte)⟩ := by decide +kernel
theorem pd_2 : parseMethodDescriptor "([BII)V" = some ⟨[(.array .byte), .int, .int], none⟩ := by decide +kernel
theorem pd_3 : parseMethodDescriptor "([CI[BII)I" = some ⟨[(.array .char), .int, (.array .byte), .int, .int], some .int⟩ := by decide +kernel
theorem pd_4 : parseMethodDescriptor "([CII)[B" = some ⟨[(.array .char), .int, .int], some (.array .byte)⟩ := by decide +kernel
theorem pd_5 : parseMethodDescriptor "([BI)C" = some ⟨[(.array .byte), .int], some .char⟩ := by decide +kernel
theorem pd_6 : parseMethodDescriptor "([BI)B" = some ⟨[(.array .byte), .int], some .byte⟩ := by decide +kernel
theorem pd_7 : parseMethodDescriptor "([CIILjava/lang/Void;)V" = some ⟨[(.array .char), .int, .int, (.object "java/lang/Void")], none⟩ := by decide +kernel
theorem pd_8 : parseMethodDescriptor "(IILjava/util/function/BiFunction;)I" = some ⟨[.int, .int, (.object "java/util/function/BiFunction")], some .int⟩ := by decide +kernel
theorem pd_9 : parseMethodDescriptor "(II)V" = some ⟨[.int, .int], none⟩ := by decide +kernel
theorem pd_10 : parseMethodDescriptor "([B)I" = some ⟨[(.array .byte)], some .int⟩ := by decide +kernel
theorem pd_11 : parseMethodDescriptor "(I[B)V" = some ⟨[.int, (.array .byte)], none⟩ := by decide +kernel
theorem pd_12 : parseMethodDescriptor "()Z" = some ⟨[], some .boolean⟩ := by decide +kernel
theorem pd_13 : parseMethodDescriptor "(C)Z" = some ⟨[.char], some .boolean⟩ := by decide +kernel
theorem pd_14 : parseMethodDescriptor "(C)[B" = some ⟨[.char], some (.array .byte)⟩ := by decide +kernel
theorem pd_15 : parseMethodDescriptor "([BB)V" = some ⟨[(.array .byte), .byte], none⟩ := by decide +kernel
theorem pd_16 : parseMethodDescriptor "()I" = some ⟨[], some .int⟩ := by decide +kernel
theorem pd_17 : parseMethodDescriptor "(I)C" = some ⟨[.int], some .char⟩ := by decide +kernel
theorem pd_18 : parseMethodDescriptor "([C)V" = some ⟨[(.array .char)], none⟩ := by decide +kernel
theorem pd_19 : parseMethodDescriptor "(J)J" = some ⟨[.long], some .long⟩ := by decide +kernel
theorem pd_20 : parseMethodDescriptor "(Ljava/lang/String;)I" = some ⟨[(.object "java/lang/String")], some .int⟩ := by decide +kernel
theorem pd_21 : parseMethodDescriptor "(C)Ljava/lang/String;" = some ⟨[.char], some (.object "java/lang/String")⟩ := by decide +kernel
theorem pd_22 : parseMethodDescriptor "(JC)J" = some ⟨[.long, .char], some .long⟩ := by decide +kernel
theorem ef_cPut_1_0 (m : MethodId) (t : Addr) (ch : Int32) : entryFrame m #[(.ref t), (.int (0 : Int32)), (.int ch)] 3 = mkF m 0 #[.val (.ref t), .val (.int (0 : Int32)), .val (.int ch)] [] := by first | (simp [entryFrame, mkF, argsToLocals, Value.category]; done) | rfl
theorem ef_cGet_1_0 (m : MethodId) (t : Addr) : entryFrame m #[(.ref t), (.int (0 : Int32))] 2 = mkF m 0 #[.val (.ref t), .val (.int (0 : Int32))] [] := by first | (simp [entryFrame, mkF, argsToLocals, Value.category]; done) | rfl
theorem ef_cNL_2 (m : MethodId)  : entryFrame m #[(.int (2 : Int32))] 1 = mkF m 0 #[.val (.int (2 : Int32))] [] := by first | (simp [entryFrame, mkF, argsToLocals, Value.category]; done) | rfl
theorem ef_cNB_2 (m : MethodId)  : entryFrame m #[(.int (2 : Int32))] 1 = mkF m 0 #[.val (.int (2 : Int32))] [] := by first | (simp [entryFrame, mkF, argsToLocals, Value.category]; done) | rfl
theorem ef_cPut_2_0 (m : MethodId) (t : Addr) (ch : Int32) : entryFrame m #[(.ref t), (.int (0 : Int32)), (.int ch)] 3 = mkF m 0 #[.val (.ref t), .val (.int (0 : Int32)), .val (.int ch)] [] := by first | (simp [entryFrame, mkF, argsToLocals, Value.category]; done) | rfl
theorem ef_cGet_2_0 (m : MethodId) (t : Addr) : entryFrame m #[(.ref t), (.int (0 : Int32))] 2 = mkF m 0 #[.val (.ref t), .val (.int (0 : Int32))] [] := by first | (simp [entryFrame, mkF, argsToLocals, Value.category]; done) | rfl
theorem ef_cPut_2_1 (m : MethodId) (t : Addr) (ch : Int32) : entryFrame m #[(.ref t), (.int (1 : Int32)), (.int ch)] 3 = mkF m 0 #[.val (.ref t), .val (.int (1 : Int32)), .val (.int ch)] [] := by first | (simp [entryFrame, mkF, argsToLocals, Value.category]; done) | rfl
theorem ef_cGet_2_1 (m : MethodId) (t : Addr) : entryFrame m #[(.ref t), (.int (1 : Int32))] 2 = mkF m 0 #[.val (.ref t), .val (.int (1 : Int32))] [] := by first | (simp [entryFrame, mkF, argsToLocals, Value.category]; done) | rfl
theorem ef_cToB_2 (m : MethodId) (b : Addr) : entryFrame m #[(.ref b), (.int (0 : Int32)), (.int (2 : Int32))] 5 = mkF m 0 #[.val (.ref b), .val (.int (0 : Int32)), .val (.int (2 : Int32)), .unset, .unset] [] := by first | (simp [entryFrame, mkF, argsToLocals, Value.category]; done) | rfl
theorem ef_cC5_2_0 (m : MethodId) (b : Addr) (d : Addr) : entryFrame m #[(.ref b), (.int (0 : Int32)), (.ref d), (.int (0 : Int32)), (.int (2 : Int32))] 7 = mkF m 0 #[.val (.ref b), .val (.int (0 : Int32)), .val (.ref d), .val (.int (0 : Int32)), .val (.int (2 : Int32)), .unset, .unset] [] := by first | (simp [entryFrame, mkF, argsToLocals, Value.category]; done) | rfl
theorem ef_cC5_2_1 (m : MethodId) (b : Addr) (d : Addr) : entryFrame m #[(.ref b), (.int (0 : Int32)), (.ref d), (.int (0 : Int32)), (.int (2 : Int32))] 7 = mkF m 0 #[.val (.ref b), .val (.int (0 : Int32)), .val (.ref d), .val (.int (0 : Int32)), .val (.int (2 : Int32)), .unset, .unset] [] := by first | (simp [entryFrame, mkF, argsToLocals, Value.category]; done) | rfl
theorem ef_cC5_2_2 (m : MethodId) (b : Addr) (d : Addr) : entryFrame m #[(.ref b), (.int (0 : Int32)), (.ref d), (.int (0 : Int32)), (.int (2 : Int32))] 7 = mkF m 0 #[.val (.ref b), .val (.int (0 : Int32)), .val (.ref d), .val (.int (0 : Int32)), .val (.int (2 : Int32)), .unset, .unset] [] := by first | (simp [entryFrame, mkF, argsToLocals, Value.category]; done) | rfl
theorem ef_cC3_2 (m : MethodId) (b : Addr) : entryFrame m #[(.ref b), (.int (0 : Int32)), (.int (2 : Int32))] 6 = mkF m 0 #[.val (.ref b), .val (.int (0 : Int32)), .val (.int (2 : Int32)), .unset, .unset, .unset] [] := by first | (simp [entryFrame, mkF, argsToLocals, Value.category]; done) | rfl
theorem ef_cCod_2_0 (m : MethodId) (t : Addr) : entryFrame m #[(.ref t), (.int (2 : Int32))] 2 = mkF m 0 #[.val (.ref t), .val (.int (2 : Int32))] [] := by first | (simp [entryFrame, mkF, argsToLocals, Value.category]; done) | rfl
theorem ef_cCod_2_1 (m : MethodId) (t : Addr) : entryFrame m #[(.ref t), (.int (2 : Int32))] 2 = mkF m 0 #[.val (.ref t), .val (.int (2 : Int32))] [] := by first | (simp [entryFrame, mkF, argsToLocals, Value.category]; done) | rfl
theorem ef_cN4_2 (m : MethodId) (x : Addr) (b : Addr) : entryFrame m #[(.ref x), (.ref b), (.int (0 : Int32)), (.int (2 : Int32)), .null] 6 = mkF m 0 #[.val (.ref x), .val (.ref b), .val (.int (0 : Int32)), .val (.int (2 : Int32)), .val .null, .unset] [] := by first | (simp [entryFrame, mkF, argsToLocals, Value.category]; done) | rfl
theorem ef_cN1_2 (m : MethodId) (x : Addr) (b : Addr) : entryFrame m #[(.ref x), (.ref b)] 2 = mkF m 0 #[.val (.ref x), .val (.ref b)] [] := by first | (simp [entryFrame, mkF, argsToLocals, Value.category]; done) | rfl
theorem ef_cNL_3 (m : MethodId)  : entryFrame m #[(.int (3 : Int32))] 1 = mkF m 0 #[.val (.int (3 : Int32))] [] := by first | (simp [entryFrame, mkF, argsToLocals, Value.category]; done) | rfl
theorem ef_cNB_3 (m : MethodId)  : entryFrame m #[(.int (3 : Int32))] 1 = mkF m 0 #[.val (.int (3 : Int32))] [] := by first | (simp [entryFrame, mkF, argsToLocals, Value.category]; done) | rfl
theorem ef_cPut_3_0 (m : MethodId) (t : Addr) (ch : Int32) : entryFrame m #[(.ref t), (.int (0 : Int32)), (.int ch)] 3 = mkF m 0 #[.val (.ref t), .val (.int (0 : Int32)), .val (.int ch)] [] := by first | (simp [entryFrame, mkF, argsToLocals, Value.category]; done) | rfl
theorem ef_cGet_3_0 (m : MethodId) (t : Addr) : entryFrame m #[(.ref t), (.int (0 : Int32))] 2 = mkF m 0 #[.val (.ref t), .val (.int (0 : Int32))] [] := by first | (simp [entryFrame, mkF, argsToLocals, Value.category]; done) | rfl
theorem ef_cPut_3_1 (m : MethodId) (t : Addr) (ch : Int32) : entryFrame m #[(.ref t), (.int (1 : Int32)), (.int ch)] 3 = mkF m 0 #[.val (.ref t), .val (.int (1 : Int32)), .val (.int ch)] [] := by first | (simp [entryFrame, mkF, argsToLocals, Value.category]; done) | rfl
theorem ef_cGet_3_1 (m : MethodId) (t : Addr) : entryFrame m #[(.ref t), (.int (1 : Int32))] 2 = mkF m 0 #[.val (.ref t), .val (.int (1 : Int32))] [] := by first | (simp [entryFrame, mkF, argsToLocals, Value.category]; done) | rfl
theorem ef_cPut_3_2 (m : MethodId) (t : Addr) (ch : Int32) : entryFrame m #[(.ref t), (.int (2 : Int32)), (.int ch)] 3 = mkF m 0 #[.val (.ref t), .val (.int (2 : Int32)), .val (.int ch)] [] := by first | (simp [entryFrame, mkF, argsToLocals, Value.category]; done) | rfl
theorem ef_cGet_3_2 (m : MethodId) (t : Addr) : entryFrame m #[(.ref t), (.int (2 : Int32))] 2 = mkF m 0 #[.val (.ref t), .val (.int (2 : Int32))] [] := by first | (simp [entryFrame, mkF, argsToLocals, Value.category]; done) | rfl
theorem ef_cToB_3 (m : MethodId) (b : Addr) : entryFrame m #[(.ref b), (.int (0 : Int32)), (.int (3 : Int32))] 5 = mkF m 0 #[.val (.ref b), .val (.int (0 : Int32)), .val (.int (3 : Int32)), .unset, .unset] [] := by first | (simp [entryFrame, mkF, argsToLocals, Value.category]; done) | rfl
theorem ef_cC5_3_0 (m : MethodId) (b : Addr) (d : Addr) : entryFrame m #[(.ref b), (.int (0 : Int32)), (.ref d), (.int (0 : Int32)), (.int (3 : Int32))] 7 = mkF m 0 #[.val (.ref b), .val (.int (0 : Int32)), .val (.ref d), .val (.int (0 : Int32)), .val (.int (3 : Int32)), .unset, .unset] [] := by first | (simp [entryFrame, mkF, argsToLocals, Value.category]; done) | rfl
theorem ef_cC5_3_1 (m : MethodId) (b : Addr) (d : Addr) : entryFrame m #[(.ref b), (.int (0 : Int32)), (.ref d), (.int (0 : Int32)), (.int (3 : Int32))] 7 = mkF m 0 #[.val (.ref b), .val (.int (0 : Int32)), .val (.ref d), .val (.int (0 : Int32)), .val (.int (3 : Int32)), .unset, .unset] [] := by first | (simp [entryFrame, mkF, argsToLocals, Value.category]; done) | rfl
theorem ef_cC5_3_2 (m : MethodId) (b : Addr) (d : Addr) : entryFrame m #[(.ref b), (.int (0 : Int32)), (.ref d), (.int (0 : Int32)), (.int (3 : Int32))] 7 = mkF m 0 #[.val (.ref b), .val (.int (0 : Int32)), .val (.ref d), .val (.int (0 : Int32)), .val (.int (3 : Int32)), .unset, .unset] [] := by first | (simp [entryFrame, mkF, argsToLocals, Value.category]; done) | rfl
theorem ef_cC5_3_3 (m : MethodId) (b : Addr) (d : Addr) : entryFrame m #[(.ref b), (.int (0 : Int32)), (.ref d), (.int (0 : Int32)), (.int (3 : Int32))] 7 = mkF m 0 #[.val (.ref b), .val (.int (0 : Int32)), .val (.ref d), .val (.int (0 : Int32)), .val (.int (3 : Int32)), .unset, .unset] [] := by first | (simp [entryFrame, mkF, argsToLocals, Value.category]; done) | rfl
theorem ef_cC3_3 (m : MethodId) (b : Addr) : entryFrame m #[(.ref b), (.int (0 : Int32)), (.int (3 : Int32))] 6 = mkF m 0 #[.val (.ref b), .val (.int (0 : Int32)), .val (.int (3 : Int32)), .unset, .unset, .unset] [] := by first | (simp [entryFrame, mkF, argsToLocals, Value.category]; done) | rfl
theorem ef_cCod_3_0 (m : MethodId) (t : Addr) : entryFrame m #[(.ref t), (.int (3 : Int32))] 2 = mkF m 0 #[.val (.ref t), .val (.int (3 : Int32))] [] := by first | (simp [entryFrame, mkF, argsToLocals, Value.category]; done) | rfl
theorem ef_cCod_3_1 (m : MethodId) (t : Addr) : entryFrame m #[(.ref t), (.int (3 : Int32))] 2 = mkF m 0 #[.val (.ref t), .val (.int (3 : Int32))] [] := by first | (simp [entryFrame, mkF, argsToLocals, Value.category]; done) | rfl
theorem ef_cN4_3 (m : MethodId) (x : Addr) (b : Addr) : entryFrame m #[(.ref x), (.ref b), (.int (0 : Int32)), (.int (3 : Int32)), .null] 6 = mkF m 0 #[.val (.ref x), .val (.ref b), .val (.int (0 : Int32)), .val (.int (3 : Int32)), .val .null, .unset] [] := by first | (simp [entryFrame, mkF, argsToLocals, Value.category]; done) | rfl
theorem ef_cN1_3 (m : MethodId) (x : Addr) (b : Addr) : entryFrame m #[(.ref x), (.ref b)] 2 = mkF m 0 #[.val (.ref x), .val (.ref b)] [] := by first | (simp [entryFrame, mkF, argsToLocals, Value.category]; done) | rfl
theorem ef_cE4 (m : MethodId) (x : Addr) (b : Addr) : entryFrame m #[(.ref x), (.ref b), (.int (0 : Int32)), (.int (0 : Int32)), .null] 6 = mkF m 0 #[.val (.ref x), .val (.ref b), .val (.int (0 : Int32)), .val (.int (0 : Int32)), .val .null, .unset] [] := by first | (simp [entryFrame, mkF, argsToLocals, Value.category]; done) | rfl
theorem ef_cE1 (m : MethodId) (x : Addr) (b : Addr) : entryFrame m #[(.ref x), (.ref b)] 2 = mkF m 0 #[.val (.ref x), .val (.ref b)] [] := by first | (simp [entryFrame, mkF, argsToLocals, Value.category]; done) | rfl
theorem ef_cIL_0 (m : MethodId) (x : Addr) : entryFrame m #[(.ref x)] 1 = mkF m 0 #[.val (.ref x)] [] := by first | (simp [entryFrame, mkF, argsToLocals, Value.category]; done) | rfl
theorem ef_cIL_1 (m : MethodId) (x : Addr) : entryFrame m #[(.ref x)] 1 = mkF m 0 #[.val (.ref x)] [] := by first | (simp [entryFrame, mkF, argsToLocals, Value.category]; done) | rfl
theorem ef_cUL_1 (m : MethodId) (t : Addr) : entryFrame m #[(.ref t)] 1 = mkF m 0 #[.val (.ref t)] [] := by first | (simp [entryFrame, mkF, argsToLocals, Value.category]; done) | rfl
theorem ef_cPCI_1_0_r (m : MethodId) (fa : Addr) : entryFrame m #[(.int (0 : Int32)), (.int (1 : Int32)), (.ref fa)] 3 = mkF m 0 #[.val (.int (0 : Int32)), .val (.int (1 : Int32)), .val (.ref fa)] [] := by first | (simp [entryFrame, mkF, argsToLocals, Value.category]; done) | rfl
theorem ef_cPCI_1_0_n (m : MethodId)  : entryFrame m #[(.int (0 : Int32)), (.int (1 : Int32)), .null] 3 = mkF m 0 #[.val (.int (0 : Int32)), .val (.int (1 : Int32)), .val .null] [] := by first | (simp [entryFrame, mkF, argsToLocals, Value.category]; done) | rfl
theorem ef_cSCI_1_0 (m : MethodId)  : entryFrame m #[(.int (0 : Int32)), (.int (1 : Int32))] 2 = mkF m 0 #[.val (.int (0 : Int32)), .val (.int (1 : Int32))] [] := by first | (simp [entryFrame, mkF, argsToLocals, Value.category]; done) | rfl
theorem ef_cLCh_1_0 (m : MethodId) (t : Addr) : entryFrame m #[(.ref t), (.int (0 : Int32))] 2 = mkF m 0 #[.val (.ref t), .val (.int (0 : Int32))] [] := by first | (simp [entryFrame, mkF, argsToLocals, Value.category]; done) | rfl
theorem ef_cUCI_1_0 (m : MethodId) (t : Addr) : entryFrame m #[(.int (0 : Int32)), (.ref t)] 2 = mkF m 0 #[.val (.int (0 : Int32)), .val (.ref t)] [] := by first | (simp [entryFrame, mkF, argsToLocals, Value.category]; done) | rfl
theorem ef_cUCh_1_0 (m : MethodId) (t : Addr) : entryFrame m #[(.ref t), (.int (0 : Int32))] 2 = mkF m 0 #[.val (.ref t), .val (.int (0 : Int32))] [] := by first | (simp [entryFrame, mkF, argsToLocals, Value.category]; done) | rfl
theorem ef_cSCh_1_0 (m : MethodId) (x : Addr) : entryFrame m #[(.ref x), (.int (0 : Int32))] 2 = mkF m 0 #[.val (.ref x), .val (.int (0 : Int32))] [] := by first | (simp [entryFrame, mkF, argsToLocals, Value.category]; done) | rfl
theorem ef_cUL_2 (m : MethodId) (t : Addr) : entryFrame m #[(.ref t)] 1 = mkF m 0 #[.val (.ref t)] [] := by first | (simp [entryFrame, mkF, argsToLocals, Value.category]; done) | rfl
theorem ef_cPCI_2_0_r (m : MethodId) (fa : Addr) : entryFrame m #[(.int (0 : Int32)), (.int (2 : Int32)), (.ref fa)] 3 = mkF m 0 #[.val (.int (0 : Int32)), .val (.int (2 : Int32)), .val (.ref fa)] [] := by first | (simp [entryFrame, mkF, argsToLocals, Value.category]; done) | rfl
theorem ef_cPCI_2_0_n (m : MethodId)  : entryFrame m #[(.int (0 : Int32)), (.int (2 : Int32)), .null] 3 = mkF m 0 #[.val (.int (0 : Int32)), .val (.int (2 : Int32)), .val .null] [] := by first | (simp [entryFrame, mkF, argsToLocals, Value.category]; done) | rfl
theorem ef_cSCI_2_0 (m : MethodId)  : entryFrame m #[(.int (0 : Int32)), (.int (2 : Int32))] 2 = mkF m 0 #[.val (.int (0 : Int32)), .val (.int (2 : Int32))] [] := by first | (simp [entryFrame, mkF, argsToLocals, Value.category]; done) | rfl
theorem ef_cLCh_2_0 (m : MethodId) (t : Addr) : entryFrame m #[(.ref t), (.int (0 : Int32))] 2 = mkF m 0 #[.val (.ref t), .val (.int (0 : Int32))] [] := by first | (simp [entryFrame, mkF, argsToLocals, Value.category]; done) | rfl
theorem ef_cUCI_2_0 (m : MethodId) (t : Addr) : entryFrame m #[(.int (0 : Int32)), (.ref t)] 2 = mkF m 0 #[.val (.int (0 : Int32)), .val (.ref t)] [] := by first | (simp [entryFrame, mkF, argsToLocals, Value.category]; done) | rfl
theorem ef_cUCh_2_0 (m : MethodId) (t : Addr) : entryFrame m #[(.ref t), (.int (0 : Int32))] 2 = mkF m 0 #[.val (.ref t), .val (.int (0 : Int32))] [] := by first | (simp [entryFrame, mkF, argsToLocals, Value.category]; done) | rfl
theorem ef_cSCh_2_0 (m : MethodId) (x : Addr) : entryFrame m #[(.ref x), (.int (0 : Int32))] 2 = mkF m 0 #[.val (.ref x), .val (.int (0 : Int32))] [] := by first | (simp [entryFrame, mkF, argsToLocals, Value.category]; done) | rfl
theorem ef_cPCI_2_1_r (m : MethodId) (fa : Addr) : entryFrame m #[(.int (1 : Int32)), (.int (2 : Int32)), (.ref fa)] 3 = mkF m 0 #[.val (.int (1 : Int32)), .val (.int (2 : Int32)), .val (.ref fa)] [] := by first | (simp [entryFrame, mkF, argsToLocals, Value.category]; done) | rfl
theorem ef_cPCI_2_1_n (m : MethodId)  : entryFrame m #[(.int (1 : Int32)), (.int (2 : Int32)), .null] 3 = mkF m 0 #[.val (.int (1 : Int32)), .val (.int (2 : Int32)), .val .null] [] := by first | (simp [entryFrame, mkF, argsToLocals, Value.category]; done) | rfl
theorem ef_cSCI_2_1 (m : MethodId)  : entryFrame m #[(.int (1 : Int32)), (.int (2 : Int32))] 2 = mkF m 0 #[.val (.int (1 : Int32)), .val (.int (2 : Int32))] [] := by first | (simp [entryFrame, mkF, argsToLocals, Value.category]; done) | rfl
theorem ef_cLCh_2_1 (m : MethodId) (t : Addr) : entryFrame m #[(.ref t), (.int (1 : Int32))] 2 = mkF m 0 #[.val (.ref t), .val (.int (1 : Int32))] [] := by first | (simp [entryFrame, mkF, argsToLocals, Value.category]; done) | rfl
theorem ef_cUCI_2_1 (m : MethodId) (t : Addr) : entryFrame m #[(.int (1 : Int32)), (.ref t)] 2 = mkF m 0 #[.val (.int (1 : Int32)), .val (.ref t)] [] := by first | (simp [entryFrame, mkF, argsToLocals, Value.category]; done) | rfl
theorem ef_cUCh_2_1 (m : MethodId) (t : Addr) : entryFrame m #[(.ref t), (.int (1 : Int32))] 2 = mkF m 0 #[.val (.ref t), .val (.int (1 : Int32))] [] := by first | (simp [entryFrame, mkF, argsToLocals, Value.category]; done) | rfl
theorem ef_cSCh_2_1 (m : MethodId) (x : Addr) : entryFrame m #[(.ref x), (.int (1 : Int32))] 2 = mkF m 0 #[.val (.ref x), .val (.int (1 : Int32))] [] := by first | (simp [entryFrame, mkF, argsToLocals, Value.category]; done) | rfl
theorem ef_cUL_3 (m : MethodId) (t : Addr) : entryFrame m #[(.ref t)] 1 = mkF m 0 #[.val (.ref t)] [] := by first | (simp [entryFrame, mkF, argsToLocals, Value.category]; done) | rfl
theorem ef_cPCI_3_0_r (m : MethodId) (fa : Addr) : entryFrame m #[(.int (0 : Int32)), (.int (3 : Int32)), (.ref fa)] 3 = mkF m 0 #[.val (.int (0 : Int32)), .val (.int (3 : Int32)), .val (.ref fa)] [] := by first | (simp [entryFrame, mkF, argsToLocals, Value.category]; done) | rfl
theorem ef_cPCI_3_0_n (m : MethodId)  : entryFrame m #[(.int (0 : Int32)), (.int (3 : Int32)), .null] 3 = mkF m 0 #[.val (.int (0 : Int32)), .val (.int (3 : Int32)), .val .null] [] := by first | (simp [entryFrame, mkF, argsToLocals, Value.category]; done) | rfl
theorem ef_cSCI_3_0 (m : MethodId)  : entryFrame m #[(.int (0 : Int32)), (.int (3 : Int32))] 2 = mkF m 0 #[.val (.int (0 : Int32)), .val (.int (3 : Int32))] [] := by first | (simp [entryFrame, mkF, argsToLocals, Value.category]; done) | rfl
theorem ef_cLCh_3_0 (m : MethodId) (t : Addr) : entryFrame m #[(.ref t), (.int (0 : Int32))] 2 = mkF m 0 #[.val (.ref t), .val (.int (0 : Int32))] [] := by first | (simp [entryFrame, mkF, argsToLocals, Value.category]; done) | rfl
theorem ef_cUCI_3_0 (m : MethodId) (t : Addr) : entryFrame m #[(.int (0 : Int32)), (.ref t)] 2 = mkF m 0 #[.val (.int (0 : Int32)), .val (.ref t)] [] := by first | (simp [entryFrame, mkF, argsToLocals, Value.category]; done) | rfl
theorem ef_cUCh_3_0 (m : MethodId) (t : Addr) : entryFrame m #[(.ref t), (.int (0 : Int32))] 2 = mkF m 0 #[.val (.ref t), .val (.int (0 : Int32))] [] := by first | (simp [entryFrame, mkF, argsToLocals, Value.category]; done) | rfl
theorem ef_cSCh_3_0 (m : MethodId) (x : Addr) : entryFrame m #[(.ref x), (.int (0 : Int32))] 2 = mkF m 0 #[.val (.ref x), .val (.int (0 : Int32))] [] := by first | (simp [entryFrame, mkF, argsToLocals, Value.category]; done) | rfl
theorem ef_cPCI_3_1_r (m : MethodId) (fa : Addr) : entryFrame m #[(.int (1 : Int32)), (.int (3 : Int32)), (.ref fa)] 3 = mkF m 0 #[.val (.int (1 : Int32)), .val (.int (3 : Int32)), .val (.ref fa)] [] := by first | (simp [entryFrame, mkF, argsToLocals, Value.category]; done) | rfl
theorem ef_cPCI_3_1_n (m : MethodId)  : entryFrame m #[(.int (1 : Int32)), (.int (3 : Int32)), .null] 3 = mkF m 0 #[.val (.int (1 : Int32)), .val (.int (3 : Int32)), .val .null] [] := by first | (simp [entryFrame, mkF, argsToLocals, Value.category]; done) | rfl
theorem ef_cSCI_3_1 (m : MethodId)  : entryFrame m #[(.int (1 : Int32)), (.int (3 : Int32))] 2 = mkF m 0 #[.val (.int (1 : Int32)), .val (.int (3 : Int32))] [] := by first | (simp [entryFrame, mkF, argsToLocals, Value.category]; done) | rfl
theorem ef_cLCh_3_1 (m : MethodId) (t : Addr) : entryFrame m #[(.ref t), (.int (1 : Int32))] 2 = mkF m 0 #[.val (.ref t), .val (.int (1 : Int32))] [] := by first | (simp [entryFrame, mkF, argsToLocals, Value.category]; done) | rfl
theorem ef_cUCI_3_1 (m : MethodId) (t : Addr) : entryFrame m #[(.int (1 : Int32)), (.ref t)] 2 = mkF m 0 #[.val (.int (1 : Int32)), .val (.ref t)] [] := by first | (simp [entryFrame, mkF, argsToLocals, Value.category]; done) | rfl
theorem ef_cUCh_3_1 (m : MethodId) (t : Addr) : entryFrame m #[(.ref t), (.int (1 : Int32))] 2 = mkF m 0 #[.val (.ref t), .val (.int (1 : Int32))] [] := by first | (simp [entryFrame, mkF, argsToLocals, Value.category]; done) | rfl
theorem ef_cSCh_3_1 (m : MethodId) (x : Addr) : entryFrame m #[(.ref x), (.int (1 : Int32))] 2 = mkF m 0 #[.val (.ref x), .val (.int (1 : Int32))] [] := by first | (simp [entryFrame, mkF, argsToLocals, Value.category]; done) | rfl
theorem ef_cPCI_3_2_r (m : MethodId) (fa : Addr) : entryFrame m #[(.int (2 : Int32)), (.int (3 : Int32)), (.ref fa)] 3 = mkF m 0 #[.val (.int (2 : Int32)), .val (.int (3 : Int32)), .val (.ref fa)] [] := by first | (simp [entryFrame, mkF, argsToLocals, Value.category]; done) | rfl
theorem ef_cPCI_3_2_n (m : MethodId)  : entryFrame m #[(.int (2 : Int32)), (.int (3 : Int32)), .null] 3 = mkF m 0 #[.val (.int (2 : Int32)), .val (.int (3 : Int32)), .val .null] [] := by first | (simp [entryFrame, mkF, argsToLocals, Value.category]; done) | rfl
theorem ef_cSCI_3_2 (m : MethodId)  : entryFrame m #[(.int (2 : Int32)), (.int (3 : Int32))] 2 = mkF m 0 #[.val (.int (2 : Int32)), .val (.int (3 : Int32))] [] := by first | (simp [entryFrame, mkF, argsToLocals, Value.category]; done) | rfl
theorem ef_cLCh_3_2 (m : MethodId) (t : Addr) : entryFrame m #[(.ref t), (.int (2 : Int32))] 2 = mkF m 0 #[.val (.ref t), .val (.int (2 : Int32))] [] := by first | (simp [entryFrame, mkF, argsToLocals, Value.category]; done) | rfl
theorem ef_cUCI_3_2 (m : MethodId) (t : Addr) : entryFrame m #[(.int (2 : Int32)), (.ref t)] 2 = mkF m 0 #[.val (.int (2 : Int32)), .val (.ref t)] [] := by first | (simp [entryFrame, mkF, argsToLocals, Value.category]; done) | rfl
theorem ef_cUCh_3_2 (m : MethodId) (t : Addr) : entryFrame m #[(.ref t), (.int (2 : Int32))] 2 = mkF m 0 #[.val (.ref t), .val (.int (2 : Int32))] [] := by first | (simp [entryFrame, mkF, argsToLocals, Value.category]; done) | rfl
theorem ef_cSCh_3_2 (m : MethodId) (x : Addr) : entryFrame m #[(.ref x), (.int (2 : Int32))] 2 = mkF m 0 #[.val (.ref x), .val (.int (2 : Int32))] [] := by first | (simp [entryFrame, mkF, argsToLocals, Value.category]; done) | rfl
theorem ef_cCE_y (m : MethodId) (ch : Int32) : entryFrame m #[(.int ch)] 1 = mkF m 0 #[.val (.int ch)] [] := by first | (simp [entryFrame, mkF, argsToLocals, Value.category]; done) | rfl
theorem ef_cCE_n (m : MethodId) (ch : Int32) : entryFrame m #[(.int ch)] 1 = mkF m 0 #[.val (.int ch)] [] := by first | (simp [entryFrame, mkF, argsToLocals, Value.category]; done) | rfl
theorem ef_cTL (m : MethodId) (ch : Int32) : entryFrame m #[(.int ch)] 1 = mkF m 0 #[.val (.int ch)] [] := by first | (simp [entryFrame, mkF, argsToLocals, Value.category]; done) | rfl
theorem ef_cTU (m : MethodId) (ch : Int32) : entryFrame m #[(.int ch)] 2 = mkF m 0 #[.val (.int ch), .unset] [] := by first | (simp [entryFrame, mkF, argsToLocals, Value.category]; done) | rfl
theorem ef_cBB_0 (m : MethodId) (x : Addr) (t : Addr) : entryFrame m #[(.ref x), (.ref t), (.int (0 : Int32))] 3 = mkF m 0 #[.val (.ref x), .val (.ref t), .val (.int (0 : Int32))] [] := by first | (simp [entryFrame, mkF, argsToLocals, Value.category]; done) | rfl
theorem ef_cBB_1 (m : MethodId) (x : Addr) (t : Addr) : entryFrame m #[(.ref x), (.ref t), (.int (1 : Int32))] 3 = mkF m 0 #[.val (.ref x), .val (.ref t), .val (.int (1 : Int32))] [] := by first | (simp [entryFrame, mkF, argsToLocals, Value.category]; done) | rfl
theorem ef_cVal (m : MethodId) (ch : Int32) : entryFrame m #[(.int ch)] 1 = mkF m 0 #[.val (.int ch)] [] := by first | (simp [entryFrame, mkF, argsToLocals, Value.category]; done) | rfl
theorem ef_cFn (m : MethodId) (kk : Int64) (u : Int32) : entryFrame m #[(.long kk), (.int u)] 3 = mkF m 0 #[.val (.long kk), .second, .val (.int u)] [] := by first | (simp [entryFrame, mkF, argsToLocals, Value.category]; done) | rfl
theorem ef_cMx (m : MethodId) (kk : Int64) : entryFrame m #[(.long kk)] 2 = mkF m 0 #[.val (.long kk), .second] [] := by first | (simp [entryFrame, mkF, argsToLocals, Value.category]; done) | rfl
theorem ef_cHa_0 (m : MethodId) (x : Addr) : entryFrame m #[(.ref x)] 4 = mkF m 0 #[.val (.ref x), .unset, .unset, .unset] [] := by first | (simp [entryFrame, mkF, argsToLocals, Value.category]; done) | rfl
theorem ef_cHa_1 (m : MethodId) (x : Addr) : entryFrame m #[(.ref x)] 4 = mkF m 0 #[.val (.ref x), .unset, .unset, .unset] [] := by first | (simp [entryFrame, mkF, argsToLocals, Value.category]; done) | rfl
theorem ef_cHa_2 (m : MethodId) (x : Addr) : entryFrame m #[(.ref x)] 4 = mkF m 0 #[.val (.ref x), .unset, .unset, .unset] [] := by first | (simp [entryFrame, mkF, argsToLocals, Value.category]; done) | rfl
theorem ef_cHa_3 (m : MethodId) (x : Addr) : entryFrame m #[(.ref x)] 4 = mkF m 0 #[.val (.ref x), .unset, .unset, .unset] [] := by first | (simp [entryFrame, mkF, argsToLocals, Value.category]; done) | rfl
theorem ef_cX (m : MethodId) (len : Int32) (i1 : Int32) (i2 : Int32) (i3 : Int32) : entryFrame m #[(.int len), (.int i1), (.int i2), (.int i3)] maxLocals = mkF m 0 #[.val (.int len), .val (.int i1), .val (.int i2), .val (.int i3), .unset, .unset, .unset, .unset, .unset, .unset, .unset, .unset, .unset, .unset] [] := by first | (simp [entryFrame, mkF, argsToLocals, Value.category, maxLocals]; done) | rfl
/-- the object at a is a Latin-1 String of the chars cs -/
def LS (Z : State) (h : Heap) (a : Addr) (cs : List Int32) : Prop := ∃ (t : Addr) (kb : ClassId), Exa Z h a "java/lang/String" ∧ Fld Z h a "java/lang/String" "coder" "B" (.int 0) ∧ Fld Z h a "java/lang/String" "value" "[B" (.ref t) ∧ Arv Z h t kb .byte (Int32.ofNat cs.length) ((cs.map StrChars.lo8).map Value.int) (.int 0) ∧ (∀ c ∈ cs, ¬ c < 0 ∧ ¬ (255 : Int32) < c) ∧ cs.length ≤ 4000
theorem LS.ext {Z : State} {h h' : Heap} {a : Addr} {cs : List Int32} (F : LS Z h a cs) (E : Ext h h') : LS Z h' a cs := by
  obtain ⟨t, kb, f1, f2, f3, f4, f5⟩ := F; exact ⟨t, kb, f1.ext E, f2.ext E, f3.ext E, f4.ext E, f5⟩
theorem LS.exa {Z : State} {h : Heap} {a : Addr} {cs : List Int32} (F : LS Z h a cs) : Exa Z h a "java/lang/String" := by obtain ⟨t, kb, f1, -⟩ := F; exact f1
theorem LS.lt {Z : State} {h : Heap} {a : Addr} {cs : List Int32} (F : LS Z h a cs) : a < h.size := F.exa.lt
theorem up255 {cs : List Int32} (h : ∀ c ∈ cs, ¬ c < 0 ∧ ¬ (255 : Int32) < c) : ∀ c ∈ cs, ¬ c < 0 ∧ ¬ (65535 : Int32) < c := fun c hc => ⟨(h c hc).1, fun q => (h c hc).2 (Int32.lt_trans (by decide) q)⟩
section Wide
variable {p : Program} {l : Launch} {e : Env} {R : Room} {m : MethodId} {args : Array Value} {below : List Frame} {meth : Method} {c : Code} {own : String} {bytes : ByteArray} {maxL : Nat} {Z s s' T : State} {EL : List (String × Nat)} {locs : List Loc} {cells slots : Nat} {h h' : Heap} {G : Outcome → State → Prop} {pc : Nat} {Ls : Array Slot} {S : List Value} {a0 : Array Value} {Q : Option Value → Heap → List Loc → Prop} {ck sk : Nat} {a : Addr} {sl : Nat} {v : Value} {ws : List Addr}
/-- the invariant of a walk that may load literals: the tables have gone on from s's, and the constants of EL say their texts -/
def WI (Z : State) (EL : List (String × Nat)) (s : State) : State → Heap → Prop := fun s' h => ∃ vm0 k0, s' = s.setVm vm0 ∧ s.Since vm0 k0 ∧ k0 ≤ h.size ∧ CHr Z EL s.vm s.heap vm0 h
theorem WI.ext (H : WI Z EL s s' h) (E : Ext h h') : WI Z EL s s' h' := by
  obtain ⟨vm0, k0, q1, q2, q3, q4⟩ := H; exact ⟨vm0, k0, q1, q2, Nat.le_trans q3 E.1, q4.trans (CHr.ext E q4.1)⟩
theorem WI.wr (H : WI Z EL s s' h) (S : Safe Z EL s'.vm h a) (W : Wr h h' a sl v) : WI Z EL s s' h' := by
  obtain ⟨vm0, k0, rfl, q2, q3, q4⟩ := H
  exact ⟨vm0, k0, rfl, q2, by rw [W.size]; exact q3, q4.trans (CHr.wr W S q4.1)⟩
theorem WI.keep (H : WI Z EL s s' h) (S : ∀ x ∈ ws, Safe Z EL s'.vm h x) (K : Keep h h' ws) : WI Z EL s s' h' := by
  obtain ⟨vm0, k0, rfl, q2, q3, q4⟩ := H
  exact ⟨vm0, k0, rfl, q2, Nat.le_trans q3 K.1, q4.trans (CHr.keep K S q4.1)⟩
theorem WI.chv (H : WI Z EL s s' h) : CHv Z EL s'.vm h := by obtain ⟨vm0, k0, rfl, q2, q3, q4⟩ := H; exact q4.1
theorem WI.safeExt (H : WI Z EL s s' h) (E : Ext h h') (S : Safe Z EL s'.vm h a) : Safe Z EL s'.vm h' a := S.ext E H.chv
theorem WI.safeNew (H : WI Z EL s s' h) (E : Ext h h') (q : a = h.size) : Safe Z EL s'.vm h' a := Safe.ext E H.chv (Safe.new (Nat.le_of_eq q.symm))
theorem WI.safeWr {b : Addr} (H : WI Z EL s s' h) (Sb : Safe Z EL s'.vm h b) (W : Wr h h' b sl v) (S : Safe Z EL s'.vm h a) : Safe Z EL s'.vm h' a := Safe.wr W Sb H.chv S
theorem WI.safeKeep (H : WI Z EL s s' h) (Sb : ∀ x ∈ ws, Safe Z EL s'.vm h x) (K : Keep h h' ws) (S : Safe Z EL s'.vm h a) : Safe Z EL s'.vm h' a := Safe.keep K Sb H.chv S
/-- what a walk that may load literals ends in -/
def WG (Z : State) (EL : List (String × Nat)) (s : State) (Q : Option Value → Heap → List Loc → Prop) (ck sk : Nat) : Outcome → State → Prop := fun o U' => ∃ v L, o = .returned v ∧ Q v U'.heap L ∧ CHr Z EL s.vm s.heap U'.vm U'.heap ∧ ReturnedEndW s o U' L ck sk
theorem r_genw (D : Wk p l e R m args below meth c own bytes maxL Z (WI Z EL s) s' T locs cells slots h) (hEW : EW Z a0 EL) {v : Option Value} (hv : meth.sig.returnType = none → v = none) (hlk : meth.locks = false) (hst : ∀ fs, (∀ (f : JFrame) (acts : List Action), f.method = m → f.locked = none → f.entered = [] → (doReturn e (T.setTop f) acts v).1 = T.setFrames fs) → Steps p.tables e below (T.setTop (mkF m pc Ls S)) (T.setFrames fs)) (hQ : Q v h locs) (hc : cells ≤ ck) (hs : slots ≤ sk) : Go p e below (WG Z EL s Q ck sk) (T.setTop (mkF m pc Ls S)) := by
  obtain ⟨vm0, k0, rfl, q2, q3, q4⟩ := D.iv
  obtain ⟨fs, hr, hrun, hended, hW⟩ := D.st.leaveW q2 (by rw [D.eq]; exact q3) (v := v) hv hlk
  refine ⟨_, _, hst fs hr, hrun, hended, _, _, rfl, ?_, ?_, hW.1, hW.2.1, hW.2.2.1, hW.2.2.2.mono hc hs⟩
  · show Q v T.heap locs
    rw [D.eq]; exact hQ
  · show CHr Z EL s.vm s.heap T.vm T.heap
    rw [D.eq]; exact q4.trans (CHv.at D.st D.wm hEW q4.1)
theorem r_Iw (D : Wk p l e R m args below meth c own bytes maxL Z (WI Z EL s) s' T locs cells slots h) (hEW : EW Z a0 EL) {z : Int32} (hret : meth.sig.returnType = some .int) (hlk : meth.locks = false) (hd : decode bytes pc = .ok (.ireturn, 1)) (hQ : Q (some (.int z)) h locs) (hc : cells ≤ ck) (hs : slots ≤ sk) : Go p e below (WG Z EL s Q ck sk) (T.setTop (mkF m pc Ls (.int z :: S))) :=
  r_genw D hEW (fun h => by rw [hret] at h; cases h) hlk (fun fs hr => retOut D.st D.ex hret rfl (Or.inl ⟨rfl, Or.inl rfl, _, rfl⟩) (hb D.cb hd) hr) hQ hc hs
theorem r_Nw (D : Wk p l e R m args below meth c own bytes maxL Z (WI Z EL s) s' T locs cells slots h) (hEW : EW Z a0 EL) {t : FieldType} {z : Int32} (hret : meth.sig.returnType = some t) (ht : t = .boolean ∨ t = .byte ∨ t = .char ∨ t = .short) (hlk : meth.locks = false) (hd : decode bytes pc = .ok (.ireturn, 1)) (hQ : Q (some (.int (nar t z))) h locs) (hc : cells ≤ ck) (hs : slots ≤ sk) : Go p e below (WG Z EL s Q ck sk) (T.setTop (mkF m pc Ls (.int z :: S))) :=
  r_genw D hEW (fun h => by rw [hret] at h; cases h) hlk (fun fs hr => retN D.st D.ex hret ht (hb D.cb hd) hr) hQ hc hs
theorem r_Aw (D : Wk p l e R m args below meth c own bytes maxL Z (WI Z EL s) s' T locs cells slots h) (hEW : EW Z a0 EL) {t : FieldType} {w : Value} (hret : meth.sig.returnType = some t) (ht : t.isReference = true) (hw : w.isRef = true) (hlk : meth.locks = false) (hd : decode bytes pc = .ok (.areturn, 1)) (hQ : Q (some w) h locs) (hc : cells ≤ ck) (hs : slots ≤ sk) : Go p e below (WG Z EL s Q ck sk) (T.setTop (mkF m pc Ls (w :: S))) :=
  r_genw D hEW (fun h => by rw [hret] at h; cases h) hlk (fun fs hr => retOut D.st D.ex hret (by cases t <;> first | (cases ht; done) | rfl) (Or.inr (Or.inr (Or.inr (Or.inr ⟨rfl, ht, hw⟩)))) (hb D.cb hd) hr) hQ hc hs
theorem r_Vw (D : Wk p l e R m args below meth c own bytes maxL Z (WI Z EL s) s' T locs cells slots h) (hEW : EW Z a0 EL) (hret : meth.sig.returnType = none) (hlk : meth.locks = false) (hd : decode bytes pc = .ok (.return_, 1)) (hQ : Q none h locs) (hc : cells ≤ ck) (hs : slots ≤ sk) : Go p e below (WG Z EL s Q ck sk) (T.setTop (mkF m pc Ls [])) :=
  r_genw D hEW (fun _ => rfl) hlk (fun fs hr => D.st.returnOut D.ex hret (hb D.cb hd) hr) hQ hc hs
/-- a contract of a body that may load literals -/
abbrev ConW (l : Launch) (y : MethodName) (bytes : ByteArray) (maxL : Nat) (ret : Option FieldType) (ws : List Jvm.Cond) (rm : Room) (Z : State) (EL : List (String × Nat)) (as' : Array Value) (h0 : Heap) (Q : Option Value → Heap → List Loc → Prop) (ck sk : Nat) : Prop :=
  MetFree l y (head1 (Jvm.Cond.code y bytes maxL ret :: ws) rm) (fun a U => a = as' ∧ Z.Warmed39 U.vm ∧ U.heap = h0 ∧ CHv Z EL U.vm h0) (fun _ _ _ _ _ => True) (fun _ U o U' => ∃ v L, o = .returned v ∧ Q v U'.heap L ∧ CHr Z EL U.vm U.heap U'.vm U'.heap ∧ ReturnedEndW U o U' L ck sk)
theorem enterW {y : MethodName} {ret : Option FieldType} {ws : List Jvm.Cond} {rm : Room} {as' : Array Value} {h0 : Heap} (hpl : plainFor y = true)
    (k : ∀ p e s m below meth c s₁, meth.name = y.name → meth.sig.returnType = ret → meth.locks = false → Wk p l e rm m as' below meth c y.cls bytes maxL Z (WI Z EL s) s s₁ [] 0 0 h0 → Go p e below (WG Z EL s Q ck sk) (s₁.setTop (entryFrame m as' maxL))) :
    ConW l y bytes maxL ret ws rm Z EL as' h0 Q ck sk := by
  refine MetFree.of_bodySF hpl hisR ?_
  intro p e s m args below meth c s₁ Bd hml0 hP hK
  obtain ⟨rfl, hZ, hh, hC⟩ := hP
  have X0 : Stand p l e rm s m _ below meth c s₁ [] 0 0 := Stand.of_body Bd
  exact k p e s m below meth c s₁ (name_of_methodNamed Bd.named Bd.method).1 Bd.returns Bd.notSynchronized ⟨X0, by rw [← hh, Bd.state]; rfl, hZ, findClass_of_methodNamed Bd.named, Bd.exec, Bd.bytes, hml0, s.vm, s.heap.size, (State.setVm_self s).symm, (State.WarmedH.refl s).since _, by rw [hh]; exact Nat.le_refl _, by rw [hh]; exact CHr.refl hC⟩
theorem g_callSW (D : Wk p l e R m args below meth c own bytes maxL Z (WI Z EL s) s' T locs cells slots h) (pc' : Nat) {index : Nat} {y : MethodName} {bz : ByteArray} {mL : Nat} {ret' : Option FieldType} {rm : Room} {as' : Array Value} (hEW : EW Z a0 EL) (w1 : (Cond.methodLink own index y).before a0 Z = true) (w2 : (Cond.static y).before a0 Z = true) (w3 : (Cond.initialized y.cls).before a0 Z = true) (w4 : (Cond.code y bz mL ret').before a0 Z = true) (hy : y.cls ≠ "java/lang/invoke/MethodHandle" ∧ y.cls ≠ "java/lang/invoke/VarHandle")
    (hM : ConW l y bz mL ret' [] rm Z EL as' h Q rm.cells rm.slots) (hsz : Ls.size = maxL) (argsL : List Value) (has : argsL.toArray = as') (hlen : ∀ sig, parseMethodDescriptor y.desc = some sig → argsL.length = sig.parameters.length) {S0 : List Value} (hst : S0 = argsL.reverse ++ S) (W : Nat) (hW : (S.map fun v => v.category).sum ≤ W) (hf : rm.frames + 1 ≤ R.frames) (hlo : W + (mL + 11) + rm.locals ≤ R.locals) (hc : cells + rm.cells ≤ R.cells) (hl : slots + rm.slots ≤ R.slots) (hd : decode bytes pc = .ok (.invokestatic index, 3)) (hp : pc + 3 = pc')
    (hr : ∀ v s'' T' h' L, Q v h' L → (∀ x, x < h.size → Safe Z EL s'.vm h x → Safe Z EL s''.vm h' x) → Wk p l e R m args below meth c own bytes maxL Z (WI Z EL s) s'' T' (locs ++ L) (cells + rm.cells) (slots + rm.slots) h' → Go p e below G (T'.setTop (mkF m pc' Ls (v.toList ++ S)))) : Go p e below G (T.setTop (mkF m pc Ls S0)) := by
  subst hp hst
  obtain ⟨vm0, k0, rfl, q2, q3, q4⟩ := D.iv
  obtain ⟨v, _, ⟨T', L', k', n'⟩, -, X', hS', hg, ⟨L, hQ, l', y', z', hR⟩, st⟩ := callSS D.st D.ex D.ow (mvT D.wm w1) (mvT D.wm w2) (mvT D.wm w3) (mvT D.wm w4) hy (backOfSH (s := s) (W := W) hM D.wm w4 w3 hf hlo hEW q4.1) (g := mkF m pc Ls (argsL.reverse ++ S)) rfl (by rw [D.ml]; exact hsz) (argsL := argsL) (rest := S) hlen rfl (by simpa using hW) (hb D.cb hd) (fun _ _ => ⟨has, D.eq, hc, hl⟩)
  dsimp only at X' l' y' z' st hQ hS' hg hR
  subst l' y' z'
  obtain ⟨X2, S2, Z2, O2⟩ := rebS q2 (n1 := T.heap.size) (by rw [D.eq]; exact q3) X' hS' hg D.wm D.ow
  exact Go.mono (fun t k => st.trans k) (hr v (s.setVm T'.vm) T' T'.heap L hQ (fun x hx Sx => hR.safe hx Sx) ⟨X2, rfl, Z2, O2, D.ex, D.cb, D.ml, T'.vm, _, rfl, S2, Nat.le_refl _, q4.trans hR⟩)
theorem g_callNW (D : Wk p l e R m args below meth c own bytes maxL Z (WI Z EL s) s' T locs cells slots h) (pc' : Nat) {index : Nat} {y : MethodName} {bz : ByteArray} {mL : Nat} {rm : Room} {as' : Array Value} (hEW : EW Z a0 EL) (hy1 : y.name = "<init>") (w1 : (Cond.methodLink own index y).before a0 Z = true) (w2 : (Cond.instanceMethod y).before a0 Z = true) (w3 : (Cond.initialized y.cls).before a0 Z = true) (w4 : (Cond.code y bz mL none).before a0 Z = true) (hy : y.cls ≠ "java/lang/invoke/MethodHandle" ∧ y.cls ≠ "java/lang/invoke/VarHandle")
    (hM : ConW l y bz mL none [] rm Z EL as' h Q rm.cells rm.slots) {b : Addr} (hsz : Ls.size = maxL) (argsL : List Value) (has : (.ref b :: argsL).toArray = as') (hlen : ∀ sig, parseMethodDescriptor y.desc = some sig → argsL.length = sig.parameters.length) {S0 : List Value} (hst : S0 = argsL.reverse ++ .ref b :: S) (W : Nat) (hW : (S.map fun v => v.category).sum ≤ W) (hf : rm.frames + 1 ≤ R.frames) (hlo : W + (mL + 11) + rm.locals ≤ R.locals) (hc : cells + rm.cells ≤ R.cells) (hl : slots + rm.slots ≤ R.slots) (hd : decode bytes pc = .ok (.invokespecial index, 3)) (hp : pc + 3 = pc')
    (hr : ∀ v s'' T' h' L, Q v h' L → (∀ x, x < h.size → Safe Z EL s'.vm h x → Safe Z EL s''.vm h' x) → Wk p l e R m args below meth c own bytes maxL Z (WI Z EL s) s'' T' (locs ++ L) (cells + rm.cells) (slots + rm.slots) h' → Go p e below G (T'.setTop (mkF m pc' Ls (v.toList ++ S)))) : Go p e below G (T.setTop (mkF m pc Ls S0)) := by
  subst hp hst
  obtain ⟨vm0, k0, rfl, q2, q3, q4⟩ := D.iv
  obtain ⟨v, _, ⟨T', L', k', n'⟩, -, X', hS', hg, ⟨L, hQ, l', y', z', hR⟩, st⟩ := D.st.specialBackS D.ex (y := y) hy1 D.ow (mvT D.wm w1) (mvT D.wm w2) (mvT D.wm w4) hy (backOfSH (s := s) (W := W) hM D.wm w4 w3 hf hlo hEW q4.1) (g := mkF m pc Ls (argsL.reverse ++ .ref b :: S)) rfl (by rw [D.ml]; exact hsz) (Steps.refl _) (a := b) (argsL := argsL) (rest := S) hlen rfl (by simpa using hW) (hb D.cb hd) (fun _ _ => ⟨has, D.eq, hc, hl⟩)
  dsimp only at X' l' y' z' st hQ hS' hg hR
  subst l' y' z'
  obtain ⟨X2, S2, Z2, O2⟩ := rebS q2 (n1 := T.heap.size) (by rw [D.eq]; exact q3) X' hS' hg D.wm D.ow
  exact Go.mono (fun t k => st.trans k) (hr v (s.setVm T'.vm) T' T'.heap L hQ (fun x hx Sx => hR.safe hx Sx) ⟨X2, rfl, Z2, O2, D.ex, D.cb, D.ml, T'.vm, _, rfl, S2, Nat.le_refl _, q4.trans hR⟩)
theorem g_callVW (D : Wk p l e R m args below meth c own bytes maxL Z (WI Z EL s) s' T locs cells slots h) (pc' : Nat) {index : Nat} {y z : MethodName} {C : String} {bz : ByteArray} {mL : Nat} {ret' : Option FieldType} {rm : Room} {as' : Array Value} (hEW : EW Z a0 EL) (w1 : (Cond.methodLink own index y).before a0 Z = true) (w2 : (Cond.declares y).before a0 Z = true) (hnf : NotFace s' y) (w6 : (Cond.selects C y z).before a0 Z = true) (w7 : (Cond.instanceMethod z).before a0 Z = true) (w3 : (Cond.initialized z.cls).before a0 Z = true) (w4 : (Cond.code z bz mL ret').before a0 Z = true) (hy : y.cls ≠ "java/lang/invoke/MethodHandle" ∧ y.cls ≠ "java/lang/invoke/VarHandle")
    (hM : ConW l z bz mL ret' [] rm Z EL as' h Q rm.cells rm.slots) {b : Addr} (E : Exa Z h b C) (hsz : Ls.size = maxL) (argsL : List Value) (has : (.ref b :: argsL).toArray = as') (hlen : ∀ sig, parseMethodDescriptor y.desc = some sig → argsL.length = sig.parameters.length) {S0 : List Value} (hst : S0 = argsL.reverse ++ .ref b :: S) (W : Nat) (hW : (S.map fun v => v.category).sum ≤ W) (hf : rm.frames + 1 ≤ R.frames) (hlo : W + (mL + 11) + rm.locals ≤ R.locals) (hc : cells + rm.cells ≤ R.cells) (hl : slots + rm.slots ≤ R.slots) (hd : decode bytes pc = .ok (.invokevirtual index, 3)) (hp : pc + 3 = pc')
    (hr : ∀ v s'' T' h' L, Q v h' L → (∀ x, x < h.size → Safe Z EL s'.vm h x → Safe Z EL s''.vm h' x) → Wk p l e R m args below meth c own bytes maxL Z (WI Z EL s) s'' T' (locs ++ L) (cells + rm.cells) (slots + rm.slots) h' → Go p e below G (T'.setTop (mkF m pc' Ls (v.toList ++ S)))) : Go p e below G (T.setTop (mkF m pc Ls S0)) := by
  subst hp hst
  obtain ⟨cq, kq, qa, qb, qc⟩ := isOf D.wm D.eq E
  obtain ⟨vm0, k0, rfl, q2, q3, q4⟩ := D.iv
  obtain ⟨v, _, ⟨T', L', k', n'⟩, -, X', hS', hg, ⟨L, hQ, l', y', z', hR⟩, st⟩ := D.st.virtualBackS D.ex (y := y) (z := z) D.ow (mvT D.wm w1) (mvT D.wm w2) hnf (mvT D.wm w6) (mvT D.wm w7) hy (backOfSH (s := s) (W := W) hM D.wm w4 w3 hf hlo hEW q4.1) qa qc (g := mkF m pc Ls (argsL.reverse ++ .ref b :: S)) rfl (by rw [D.ml]; exact hsz) (Steps.refl _) (argsL := argsL) (rest := S) hlen rfl (by simpa using hW) (hb D.cb hd) (fun _ _ => ⟨has, D.eq, hc, hl⟩)
  dsimp only at X' l' y' z' st hQ hS' hg hR
  subst l' y' z'
  obtain ⟨X2, S2, Z2, O2⟩ := rebS q2 (n1 := T.heap.size) (by rw [D.eq]; exact q3) X' hS' hg D.wm D.ow
  exact Go.mono (fun t k => st.trans k) (hr v (s.setVm T'.vm) T' T'.heap L hQ (fun x hx Sx => hR.safe hx Sx) ⟨X2, rfl, Z2, O2, D.ex, D.cb, D.ml, T'.vm, _, rfl, S2, Nat.le_refl _, q4.trans hR⟩)
theorem g_ldcS (D : Wk p l e R m args below meth c own bytes maxL Z (WI Z EL s) s' T locs cells slots h) (pc' : Nat) {text : String} {index : Nat} (hEW : EW Z a0 EL) (w : (Cond.stringLink own index text).before a0 Z = true) (wS : ∀ a ∈ Bundle.stringAtoms, a.before a0 Z = true) (hmem : (own, index) ∈ EL) (cs : List Int32) (n : Nat) (ht : (∀ c ∈ text.toList, c.toNat < 256) ∧ text.toList.map (fun c => Value.int (Jvm.Lit.byteI c.toNat.toUInt16)) = (cs.map StrChars.lo8).map Value.int) (hcs : (∀ c ∈ cs, ¬ c < 0 ∧ ¬ (255 : Int32) < c) ∧ cs.length ≤ 4000) (hn : 4 * text.toList.length ≤ n) (hbig : n ≤ 536870912) (hd : decode bytes pc = .ok (.ldc index, 2)) (hc : cells + 2 ≤ R.cells) (hl : slots + (n + 4) ≤ R.slots) (hp : pc + 2 = pc')
    (hr : ∀ s'' T' h' a t kb, Ext h h' → Exa Z h' a "java/lang/String" → Fld Z h' a "java/lang/String" "coder" "B" (.int 0) → Fld Z h' a "java/lang/String" "value" "[B" (.ref t) → Arv Z h' t kb .byte (Int32.ofNat cs.length) ((cs.map StrChars.lo8).map Value.int) (.int 0) → (∀ x, Safe Z EL s''.vm h' x → x ≠ a ∧ x ≠ t) → (∀ x, x < h.size → Safe Z EL s'.vm h x → Safe Z EL s''.vm h' x) → Wk p l e R m args below meth c own bytes maxL Z (WI Z EL s) s'' T' locs (cells + 2) (slots + (n + 4)) h' → Go p e below G (T'.setTop (mkF m pc' Ls (.ref a :: S)))) : Go p e below G (T.setTop (mkF m pc Ls S)) := by
  subst hp
  obtain ⟨vm0, k0, rfl, q2, q3, q4⟩ := D.iv
  have hz : ¬ (Int32.ofNat cs.length) < 0 := by
    have q : (Int32.ofNat cs.length).toInt = cs.length := Int32.toInt_ofNat_small (by omega)
    rw [Int32.lt_iff_toInt_lt, q, show (0 : Int32).toInt = 0 from rfl]; omega
  have hz2 : (Int32.ofNat cs.length).toNatClampNeg = ((cs.map StrChars.lo8).map Value.int).length := by
    have q : (Int32.ofNat cs.length).toInt = cs.length := Int32.toInt_ofNat_small (by omega)
    simp only [Int32.toNatClampNeg, q, List.length_map]; omega
  obtain ⟨a, T', h', k1, b, k, X', e', E', S', hk', Z', O', x1, x2, x3, x4, -, -, hR, -, hsf, st⟩ := ldcCH (s := s) D.st D.ex D.wm D.ow w wS D.eq q2 q3 hEW hmem q4.1 ht hz hz2 (g := mkF m pc Ls S) rfl (hb D.cb hd) hn hbig hc hl
  exact Go.mono st (hr (s.setVm T'.vm) T' h' a b k E' x1 x2 x3 x4 hsf (fun x hx Sx => hR.safe hx Sx) ⟨X', e', Z', O', D.ex, D.cb, D.ml, T'.vm, k1, rfl, S', hk', q4.trans hR⟩)
/-- the same, where the contract speaks of the tables at the end too -/
def WGv (Z : State) (EL : List (String × Nat)) (s : State) (Q : Option Value → Vm → Heap → List Loc → Prop) (ck sk : Nat) : Outcome → State → Prop := fun o U' => ∃ v L, o = .returned v ∧ Q v U'.vm U'.heap L ∧ CHr Z EL s.vm s.heap U'.vm U'.heap ∧ ReturnedEndW s o U' L ck sk
abbrev ConV (l : Launch) (y : MethodName) (bytes : ByteArray) (maxL : Nat) (ret : Option FieldType) (ws : List Jvm.Cond) (rm : Room) (Z : State) (EL : List (String × Nat)) (as' : Array Value) (h0 : Heap) (Q : Option Value → Vm → Heap → List Loc → Prop) (ck sk : Nat) : Prop :=
  MetFree l y (head1 (Jvm.Cond.code y bytes maxL ret :: ws) rm) (fun a U => a = as' ∧ Z.Warmed39 U.vm ∧ U.heap = h0 ∧ CHv Z EL U.vm h0) (fun _ _ _ _ _ => True) (fun _ U o U' => ∃ v L, o = .returned v ∧ Q v U'.vm U'.heap L ∧ CHr Z EL U.vm U.heap U'.vm U'.heap ∧ ReturnedEndW U o U' L ck sk)
theorem enterV {y : MethodName} {ret : Option FieldType} {ws : List Jvm.Cond} {rm : Room} {as' : Array Value} {h0 : Heap} {Qv : Option Value → Vm → Heap → List Loc → Prop} (hpl : plainFor y = true)
    (k : ∀ p e s m below meth c s₁, meth.name = y.name → meth.sig.returnType = ret → meth.locks = false → Wk p l e rm m as' below meth c y.cls bytes maxL Z (WI Z EL s) s s₁ [] 0 0 h0 → Go p e below (WGv Z EL s Qv ck sk) (s₁.setTop (entryFrame m as' maxL))) :
    ConV l y bytes maxL ret ws rm Z EL as' h0 Qv ck sk := by
  refine MetFree.of_bodySF hpl hisR ?_
  intro p e s m args below meth c s₁ Bd hml0 hP hK
  obtain ⟨rfl, hZ, hh, hC⟩ := hP
  have X0 : Stand p l e rm s m _ below meth c s₁ [] 0 0 := Stand.of_body Bd
  exact k p e s m below meth c s₁ (name_of_methodNamed Bd.named Bd.method).1 Bd.returns Bd.notSynchronized ⟨X0, by rw [← hh, Bd.state]; rfl, hZ, findClass_of_methodNamed Bd.named, Bd.exec, Bd.bytes, hml0, s.vm, s.heap.size, (State.setVm_self s).symm, (State.WarmedH.refl s).since _, by rw [hh]; exact Nat.le_refl _, by rw [hh]; exact CHr.refl hC⟩
theorem r_Av (D : Wk p l e R m args below meth c own bytes maxL Z (WI Z EL s) s' T locs cells slots h) (hEW : EW Z a0 EL) {t : FieldType} {w : Value} {Qv : Option Value → Vm → Heap → List Loc → Prop} (hret : meth.sig.returnType = some t) (ht : t.isReference = true) (hw : w.isRef = true) (hlk : meth.locks = false) (hd : decode bytes pc = .ok (.areturn, 1)) (hQ : ∀ vm1, (∀ x, x < h.size → Safe Z EL s'.vm h x → Safe Z EL vm1 h x) → Qv (some w) vm1 h locs) (hc : cells ≤ ck) (hs : slots ≤ sk) : Go p e below (WGv Z EL s Qv ck sk) (T.setTop (mkF m pc Ls (w :: S))) := by
  obtain ⟨vm0, k0, rfl, q2, q3, q4⟩ := D.iv
  obtain ⟨fs, hr, hrun, hended, hW⟩ := D.st.leaveW q2 (by rw [D.eq]; exact q3) (v := some w) (fun h => by rw [hret] at h; cases h) hlk
  have hR := CHv.at D.st D.wm hEW q4.1
  refine ⟨_, _, retOut D.st D.ex hret (by cases t <;> first | (cases ht; done) | rfl) (Or.inr (Or.inr (Or.inr (Or.inr ⟨rfl, ht, hw⟩)))) (hb D.cb hd) hr, hrun, hended, _, _, rfl, ?_, ?_, hW.1, hW.2.1, hW.2.2.1, hW.2.2.2.mono hc hs⟩
  · show Qv (some w) T.vm T.heap locs
    rw [D.eq]; exact hQ _ fun x hx Sx => hR.safe hx Sx
  · show CHr Z EL s.vm s.heap T.vm T.heap
    rw [D.eq]; exact q4.trans hR
theorem backOfSHv {vm0 : Vm} {y : MethodName} {ret : Option FieldType} {rm : Room} {len W : Nat} {as' : Array Value} {Qv : Option Value → Vm → Heap → List Loc → Prop} (hM : ConV l y bytes maxL ret [] rm Z EL as' h Qv rm.cells rm.slots)
    (hZ : Z.Warmed39 vm0) (wc : (Cond.code y bytes maxL ret).before a0 Z = true) (wz : (Cond.initialized y.cls).before a0 Z = true) (hf : rm.frames + 1 ≤ R.frames) (hl : W + (maxL + 11) + rm.locals ≤ R.locals) (hEL : EW Z a0 EL) (H : CHv Z EL vm0 h) :
    BackS l R p e below (s.setVm vm0) args y len W (fun A a => a = as' ∧ A.U.heap = h ∧ A.cells + rm.cells ≤ R.cells ∧ A.slots + rm.slots ≤ R.slots)
      (fun A _ v B => ∃ L, Qv v B.U.vm B.U.heap L ∧ B.locs = A.locs ++ L ∧ B.cells = A.cells + rm.cells ∧ B.slots = A.slots + rm.slots ∧ CHr Z EL vm0 h B.U.vm B.U.heap) :=
  BackS.of_freeW (bytes := bytes) (maxL := maxL) (ret := ret) (E := fun _ first o t L k n => k = rm.cells ∧ n = rm.slots ∧ (∃ v, o = .returned v ∧ Qv v t.vm t.heap L) ∧ CHr Z EL first.vm first.heap t.vm t.heap) hM hf hl
    (fun m meth c A a Y hp => have hU : Z.Warmed39 A.U.vm := wtrans (s := s.setVm vm0) hZ Y.warmed
      ⟨by show (Cond.and _ .tt).before a A.U = true; rw [Cond.before_and, mv hU wc]; rfl, mv hU wc, mv hU wz, hp.2.2.1, hp.2.2.2⟩)
    (fun m meth c A a g mk Y hp => ⟨hp.1, wtrans (s := s.setVm vm0) hZ Y.warmed, hp.2.1, (CHv.at Y hZ hEL H).1⟩) (fun _ _ _ _ _ _ _ _ _ => trivial)
    (fun _ _ _ _ ⟨v, L, h1, h2, h3, h4⟩ => ⟨L, _, _, h4, rfl, rfl, ⟨v, h1, h2⟩, h3⟩)
    (fun m meth c A a g mk v t L k n Y hp _ _ ⟨e1, e2, ⟨v', e3, e4⟩, e5⟩ => by
      cases e3; subst e1 e2
      refine ⟨L, e4, rfl, rfl, rfl, (CHv.at Y hZ hEL H).trans ?_⟩
      rw [← hp.2.1]; exact e5)
theorem g_callSV (D : Wk p l e R m args below meth c own bytes maxL Z (WI Z EL s) s' T locs cells slots h) (pc' : Nat) {index : Nat} {y : MethodName} {bz : ByteArray} {mL : Nat} {ret' : Option FieldType} {rm : Room} {as' : Array Value} {Qv : Option Value → Vm → Heap → List Loc → Prop} (hEW : EW Z a0 EL) (w1 : (Cond.methodLink own index y).before a0 Z = true) (w2 : (Cond.static y).before a0 Z = true) (w3 : (Cond.initialized y.cls).before a0 Z = true) (w4 : (Cond.code y bz mL ret').before a0 Z = true) (hy : y.cls ≠ "java/lang/invoke/MethodHandle" ∧ y.cls ≠ "java/lang/invoke/VarHandle")
    (hM : ConV l y bz mL ret' [] rm Z EL as' h Qv rm.cells rm.slots) (hsz : Ls.size = maxL) (argsL : List Value) (has : argsL.toArray = as') (hlen : ∀ sig, parseMethodDescriptor y.desc = some sig → argsL.length = sig.parameters.length) {S0 : List Value} (hst : S0 = argsL.reverse ++ S) (W : Nat) (hW : (S.map fun v => v.category).sum ≤ W) (hf : rm.frames + 1 ≤ R.frames) (hlo : W + (mL + 11) + rm.locals ≤ R.locals) (hc : cells + rm.cells ≤ R.cells) (hl : slots + rm.slots ≤ R.slots) (hd : decode bytes pc = .ok (.invokestatic index, 3)) (hp : pc + 3 = pc')
    (hr : ∀ v s'' T' h' L, Qv v s''.vm h' L → (∀ x, x < h.size → Safe Z EL s'.vm h x → Safe Z EL s''.vm h' x) → Wk p l e R m args below meth c own bytes maxL Z (WI Z EL s) s'' T' (locs ++ L) (cells + rm.cells) (slots + rm.slots) h' → Go p e below G (T'.setTop (mkF m pc' Ls (v.toList ++ S)))) : Go p e below G (T.setTop (mkF m pc Ls S0)) := by
  subst hp hst
  obtain ⟨vm0, k0, rfl, q2, q3, q4⟩ := D.iv
  obtain ⟨v, _, ⟨T', L', k', n'⟩, -, X', hS', hg, ⟨L, hQ, l', y', z', hR⟩, st⟩ := callSS D.st D.ex D.ow (mvT D.wm w1) (mvT D.wm w2) (mvT D.wm w3) (mvT D.wm w4) hy (backOfSHv (s := s) (W := W) hM D.wm w4 w3 hf hlo hEW q4.1) (g := mkF m pc Ls (argsL.reverse ++ S)) rfl (by rw [D.ml]; exact hsz) (argsL := argsL) (rest := S) hlen rfl (by simpa using hW) (hb D.cb hd) (fun _ _ => ⟨has, D.eq, hc, hl⟩)
  dsimp only at X' l' y' z' st hQ hS' hg hR
  subst l' y' z'
  obtain ⟨X2, S2, Z2, O2⟩ := rebS q2 (n1 := T.heap.size) (by rw [D.eq]; exact q3) X' hS' hg D.wm D.ow
  exact Go.mono (fun t k => st.trans k) (hr v (s.setVm T'.vm) T' T'.heap L hQ (fun x hx Sx => hR.safe hx Sx) ⟨X2, rfl, Z2, O2, D.ex, D.cb, D.ml, T'.vm, _, rfl, S2, Nat.le_refl _, q4.trans hR⟩)
end Wide
theorem safe_null {Z : State} {EL : List (String × Nat)} {vm : Vm} {h : Heap} {x : Addr} (hal : Z.vm.Alike vm) (E : Exa Z h x "java/lang/String") (V : Fld Z h x "java/lang/String" "value" "[B" .null) : Safe Z EL vm h x := fun B => by
  obtain ⟨p, -, u, a, -, q, -, F, rfl | rfl⟩ := B
  · obtain ⟨cell, cf, k, i, f, h1, h2, -, -, -, -, h7⟩ := V
    cases (show h[q.sa]? = some q.sC from F.ha).symm.trans h1
    obtain ⟨cS, ⟨⟨-, -, -, ⟨c1, k1, i1, f1, -⟩, -, -, -, v1, -⟩, -⟩, -⟩ := F
    obtain ⟨k3, e3, -⟩ := State.fieldFound?_setVm (s := Z) hal h2
    have e4 := (show (Wst Z vm h).fieldFound? _ _ _ = _ from e3).symm.trans f1
    simp only [Option.some.injEq, Prod.mk.injEq] at e4
    rw [e4.2.2.2, v1] at h7
    cases h7
  · obtain ⟨cell, k, e1, e2, e3, -, -⟩ := E
    cases (show h[q.sd]? = some q.SA from F.hd).symm.trans e1
    obtain ⟨cS, -, -, f, -⟩ := F
    have f' : vm.findClass "[B" = some q.SA.cls := f
    rw [hal.findClass] at f'
    obtain ⟨k1, q1, q2⟩ := Vm.findClass_spec f'
    obtain ⟨k2, q3, q4⟩ := Vm.findClass_spec e2
    cases q1.symm.trans q3
    exact absurd (q2.symm.trans q4) (by decide)
theorem Keep.toExt {h h' : Heap} (K : Keep h h' []) : Ext h h' := ⟨K.1, fun a c q => K.2.1 a c q nin0⟩
theorem Ext.trans' {h h1 h2 : Heap} (E : Ext h h1) (F : Ext h1 h2) : Ext h h2 := ⟨Nat.le_trans E.1 F.1, fun a c q => F.2 a c (E.2 a c q)⟩
/-- a char below 256 -/
abbrev B8 (c : Int32) : Prop := ¬ c < 0 ∧ ¬ (255 : Int32) < c
theorem b8_nil : ∀ c ∈ ([] : List Int32), B8 c := fun _ q => nomatch q
theorem b8_cons {a : Int32} {L : List Int32} (h : B8 a) (r : ∀ c ∈ L, B8 c) : ∀ c ∈ a :: L, B8 c := fun c q => (List.mem_cons.mp q).elim (fun e => e ▸ h) (r c)
theorem i2c_ch {c : Int32} (h0 : ¬ c < 0) (h1 : ¬ (65535 : Int32) < c) : c.toUInt32.toUInt16.toUInt32.toInt32 = c := by
  rw [Int32.lt_iff_toInt_lt, show (0 : Int32).toInt = 0 from rfl] at h0
  rw [Int32.lt_iff_toInt_lt, show (65535 : Int32).toInt = 65535 from rfl] at h1
  have e : c.toInt = c.toBitVec.toNat := by
    have q : c.toInt = c.toBitVec.toInt := rfl
    have lt := c.toBitVec.isLt
    rw [q, BitVec.toInt_eq_toNat_cond] at h0
    rw [q, BitVec.toInt_eq_toNat_cond]
    by_cases g : 2 * c.toBitVec.toNat < 2 ^ 32
    · rw [if_pos g]
    · rw [if_neg g] at h0; omega
  apply Int32.toBitVec_inj.mp
  apply BitVec.eq_of_toNat_eq
  show (c.toUInt32.toUInt16.toUInt32).toBitVec.toNat = _
  have q : (c.toUInt32.toUInt16.toUInt32).toNat = c.toUInt32.toNat % 65536 := by simp
  have q2 : c.toUInt32.toNat = c.toBitVec.toNat := rfl
  show (c.toUInt32.toUInt16.toUInt32).toNat = _
  rw [q, q2]; omega
theorem nar_c {c : Int32} (h : B8 c) : nar .char c = c := i2c_ch h.1 (fun q => h.2 (Int32.lt_trans (by decide) q))
theorem b8_and (x : Int32) : B8 (x &&& (255 : Int32)) := by
  have h : (x &&& 255).toBitVec.toNat < 256 := by
    simp only [Int32.toBitVec_and, BitVec.toNat_and]
    exact Nat.lt_succ_of_le Nat.and_le_right
  have e : (x &&& 255).toInt = (x &&& 255).toBitVec.toNat := by
    show (x &&& 255).toBitVec.toInt = _
    rw [BitVec.toInt_eq_toNat_cond, if_pos (by omega)]
  show ¬ (x &&& 255) < 0 ∧ ¬ (255 : Int32) < (x &&& 255)
  rw [Int32.lt_iff_toInt_lt, Int32.lt_iff_toInt_lt, e, show (0 : Int32).toInt = 0 from rfl, show (255 : Int32).toInt = 255 from rfl]
  omega
theorem and_le (x : Int32) {k : Int32} {K : Nat} (hk : k.toBitVec.toNat = K) (hK : K < 2147483648) : 0 ≤ (x &&& k).toInt ∧ (x &&& k).toInt ≤ K := by
  have h : (x &&& k).toBitVec.toNat ≤ K := by
    simp only [Int32.toBitVec_and, BitVec.toNat_and]
    rw [← hk]; exact Nat.and_le_right
  have e : (x &&& k).toInt = (x &&& k).toBitVec.toNat := by
    show (x &&& k).toBitVec.toInt = _
    rw [BitVec.toInt_eq_toNat_cond, if_pos (by omega)]
  rw [e]; omega
theorem i2c_b8 {c : Int32} (h : B8 c) : c.toUInt32.toUInt16.toUInt32.toInt32 = c := i2c_ch h.1 (fun q => h.2 (Int32.lt_trans (by decide) q))
theorem b8_i2c (x : Int32) : B8 ((x &&& (255 : Int32)).toUInt32.toUInt16.toUInt32.toInt32) := by rw [i2c_b8 (b8_and x)]; exact b8_and x
theorem own_r1 : some (Value.int (nar .boolean (1 : Int32))) = some (Value.int 1) := by decide
theorem own_nar1 : nar .boolean (1 : Int32) = 1 := by decide
theorem own_nar0 : nar .boolean (0 : Int32) = 0 := by decide
/-- a boolean that says whether P -/
def own_B (P : Prop) (v : Option Value) : Prop := ∃ r : Int32, v = some (.int r) ∧ ((r = 1 ∧ P) ∨ (r = 0 ∧ ¬ P))
def own_R (P : Prop) (r : Int32) : Prop := (r = 1 ∧ P) ∨ (r = 0 ∧ ¬ P)
theorem own_R.same {P Q : Prop} {r t : Int32} (h : own_R P r) (k : own_R Q t) (e : P ↔ Q) : r = t := by
  rcases h with ⟨rfl, p⟩ | ⟨rfl, p⟩ <;> rcases k with ⟨rfl, q⟩ | ⟨rfl, q⟩
  · rfl
  · exact absurd (e.mp p) q
  · exact absurd (e.mpr q) p
  · rfl
theorem own_R.yes {P : Prop} {r : Int32} (h : own_R P r) (p : P) : r = 1 := by rcases h with ⟨h, -⟩ | ⟨-, n⟩; exact h; exact absurd p n
theorem own_R.no {P : Prop} {r : Int32} (h : own_R P r) (p : ¬ P) : r = 0 := by rcases h with ⟨-, n⟩ | ⟨h, -⟩; exact absurd n p; exact h
theorem own_ninst {Z : State} {a0 : Array Value} {K : String} {n : Nat} (wS : (Cond.superclass "java/lang/String" "java/lang/Object").before a0 Z = true) (wO : (Cond.noSuperclass "java/lang/Object").before a0 Z = true) (wi : (Cond.instantiable K n).before a0 Z = true) (h1 : "java/lang/String" ≠ K) (h2 : "java/lang/Object" ≠ K) : ∃ c t, Z.vm.findClass "java/lang/String" = some c ∧ Z.vm.findClass K = some t ∧ Z.vm.assignable c t = false := by
  obtain ⟨t, kt, g1, g2, g3, g4, -⟩ := Cond.instantiable_spec wi
  obtain ⟨c, h0⟩ := found_sup wS
  obtain ⟨o, k, ko, e1, e2, e3, e4, e5, -, e7⟩ := Cond.superclass_spec h0 wS
  obtain ⟨o', ko', f1, f2, f3, -⟩ := Cond.noSuperclass_spec wO
  cases e1.symm.trans f1
  have n1 := ids_ne h0 g1 h1
  have n2 := ids_ne f1 g1 h2
  have g6 : kt.isInterface = false := by simp only [Bool.or_eq_false_iff] at g4; exact g4.1
  have q : ∀ fuel, Z.vm.isSubclassAux fuel c t = false := fun fuel => by
    cases fuel with
    | zero => rfl
    | succ f =>
      cases f with
      | zero => simp [Vm.isSubclassAux, n1, e2, e4]
      | succ g => simp [Vm.isSubclassAux, n1, n2, e2, e4, f2, f3]
  refine ⟨c, t, h0, g1, ?_⟩
  show Z.vm.assignableAux (255 + 1) c t = false
  simp [Vm.assignableAux, n1, e2, g2, e5, g3, g6, Vm.isSubclass, q]
theorem wsa : ∀ d ∈ Bundle.stringAtoms, d ∈ tables_1 := by decide +kernel
abbrev C16 (c : Int32) : Prop := ¬ c < 0 ∧ ¬ (65535 : Int32) < c
theorem c16_nil : ∀ c ∈ ([] : List Int32), C16 c := fun _ q => nomatch q
theorem c16_cons {a : Int32} {L : List Int32} (h : C16 a) (r : ∀ c ∈ L, C16 c) : ∀ c ∈ a :: L, C16 c := fun c q => (List.mem_cons.mp q).elim (fun e => e ▸ h) (r c)
theorem u8_nil : ∀ c ∈ ([] : List Int32), ¬ (255 : Int32) < c := fun _ q => nomatch q
theorem u8_cons {a : Int32} {L : List Int32} (h : ¬ (255 : Int32) < a) (r : ∀ c ∈ L, ¬ (255 : Int32) < c) : ∀ c ∈ a :: L, ¬ (255 : Int32) < c := fun c q => (List.mem_cons.mp q).elim (fun e => e ▸ h) (r c)
/-- the object at a is a String of the chars cs, by the coder that the JDK takes -/
def TS (Z : State) (h : Heap) (a : Addr) (cs : List Int32) : Prop := ∃ (t : Addr) (kb : ClassId) (cd N2 : Int32) (vs : List Value), Exa Z h a "java/lang/String" ∧ Fld Z h a "java/lang/String" "coder" "B" (.int cd) ∧ Fld Z h a "java/lang/String" "value" "[B" (.ref t) ∧ Arv Z h t kb .byte N2 vs (.int 0) ∧ StrChars.Road.CodA cs cd N2 vs ∧ (∀ c ∈ cs, C16 c) ∧ cs.length ≤ 4000
theorem TS.ext {Z : State} {h h' : Heap} {a : Addr} {cs : List Int32} (F : TS Z h a cs) (E : Ext h h') : TS Z h' a cs := by
  obtain ⟨t, kb, cd, N2, vs, f1, f2, f3, f4, f5⟩ := F; exact ⟨t, kb, cd, N2, vs, f1.ext E, f2.ext E, f3.ext E, f4.ext E, f5⟩
theorem TS.exa {Z : State} {h : Heap} {a : Addr} {cs : List Int32} (F : TS Z h a cs) : Exa Z h a "java/lang/String" := by obtain ⟨t, kb, cd, N2, vs, f1, -⟩ := F; exact f1
theorem LS.ts {Z : State} {h : Heap} {a : Addr} {cs : List Int32} (F : LS Z h a cs) : TS Z h a cs := by
  obtain ⟨t, kb, f1, f2, f3, f4, f5, f6⟩ := F
  exact ⟨t, kb, 0, _, _, f1, f2, f3, f4, StrChars.Road.codOf rfl (fun c hc => (f5 c hc).2), up255 f5, f6⟩
theorem nb_b (c : Int32) : nar .byte (c.toInt8.toInt32) = StrChars.lo8 c := by simp [nar, StrChars.lo8]
theorem nb_lo (c : Int32) : nar .byte ((c >>> ((0 : Int32) &&& 31)).toInt8.toInt32) = StrChars.lo8 c := by rw [StrChars.shr0]; exact nb_b c
theorem nb_hi (c : Int32) : nar .byte ((c >>> ((8 : Int32) &&& 31)).toInt8.toInt32) = StrChars.hi8 c := nb_b _
theorem get_says {c : Int32} (h : C16 c) : nar .char ((((StrChars.lo8 c &&& (255 : Int32)) <<< ((0 : Int32) &&& 31)) ||| ((StrChars.hi8 c &&& (255 : Int32)) <<< ((8 : Int32) &&& 31))).toUInt32.toUInt16.toUInt32.toInt32) = c := by
  show nar .char (StrChars.pairCh (StrChars.lo8 c) (StrChars.hi8 c)) = c
  rw [StrChars.pair_says h.1 h.2]; exact i2c_ch h.1 h.2
theorem nar16 {c : Int32} (h : C16 c) : nar .char c = c := i2c_ch h.1 h.2
theorem c16_i2c (x : Int32) : C16 (x.toUInt32.toUInt16.toUInt32.toInt32) := by
  have h : (x.toUInt32.toUInt16.toUInt32.toInt32).toBitVec.toNat < 65536 := by
    show (x.toUInt32.toUInt16.toUInt32).toNat < 65536
    have q : (x.toUInt32.toUInt16.toUInt32).toNat = x.toUInt32.toNat % 65536 := by simp
    rw [q]; omega
  generalize x.toUInt32.toUInt16.toUInt32.toInt32 = y at h
  have e : y.toInt = y.toBitVec.toNat := by
    show y.toBitVec.toInt = _
    rw [BitVec.toInt_eq_toNat_cond, if_pos (by omega)]
  show ¬ y < 0 ∧ ¬ (65535 : Int32) < y
  rw [Int32.lt_iff_toInt_lt, Int32.lt_iff_toInt_lt, e, show (0 : Int32).toInt = 0 from rfl, show (65535 : Int32).toInt = 65535 from rfl]
  omega
theorem c16_nar (x : Int32) : C16 (nar .char x) := c16_i2c x
theorem ref_cases {v : Value} (h : v.isRef = true) : (∃ a, v = .ref a) ∨ v = .null := by cases v <;> first | (exact Or.inl ⟨_, rfl⟩) | (exact Or.inr rfl) | cases h
theorem lch_says {c : Int32} (h : C16 c) (u : ¬ (255 : Int32) < c) : nar .char ((StrChars.lo8 c &&& (255 : Int32)).toUInt32.toUInt16.toUInt32.toInt32) = c := by
  show nar .char (StrChars.chr8 (StrChars.lo8 c)) = c
  rw [StrChars.chr8_lo8 h.1 u]; exact nar16 h
theorem wlen : ∀ d ∈ StrChars.Road.wordsLen, d ∈ tables_1 := by decide +kernel
theorem TS.lenB {p : Program} {l : Launch} {e : Env} {R : Room} {m : MethodId} {args : Array Value} {below : List Frame} {meth : Method} {c : Code} {own : String} {bytes : ByteArray} {maxL : Nat} {Z : State} {I : State → Heap → Prop} {s' T : State} {locs : List Loc} {cells slots : Nat} {h h1 : Heap} {a0 : Array Value} {x : Addr} {cs : List Int32} {z : Int32} (W : Nat) {len : Nat}
    (D : Wk p l e R m args below meth c own bytes maxL Z I s' T locs cells slots h1) (hw : ∀ d ∈ tables_1, d.before a0 Z = true) (A : TS Z h x cs) (S : Sta Z h "java/lang/String" "COMPACT_STRINGS" "Z" (.int z)) (hz : ¬ z = 0) (hf : 2 ≤ R.frames) (hl : W + 25 ≤ R.locals) :
    Back l R p e below s' args (⟨"java/lang/String", "length", "()I"⟩ : MethodName) len W (fun P a => a = #[.ref x] ∧ P.U.heap = h ∧ P.cells + 0 ≤ R.cells ∧ P.slots + 0 ≤ R.slots)
      (fun P _ v B => ∃ L, (v = some (.int (Int32.ofNat cs.length)) ∧ L = [] ∧ B.U.heap = h) ∧ B.locs = P.locs ++ L ∧ B.cells = P.cells + 0 ∧ B.slots = P.slots + 0) := by
  obtain ⟨t, kb, cd, N2, vs, f1, f2, f3, f4, f5, f6, f7⟩ := A
  exact StrChars.Road.lenW D.wm (fun d hd => hw d (wlen d hd)) (kI := 4) (hw _ w_2) f1 f3 f2 f4 f5 f6 S hz f7 hf hl
def own_st (k : Int64) (u : Int32) : Int64 := (k ^^^ u.toInt64) * (1099511628211 : Int64)
def own_m1 (k : Int64) : Int64 := k ^^^ (XT.ushrL k (33 : Int32))
def own_mx (k : Int64) : Int64 := own_m1 ((own_m1 ((own_m1 k) * (-49064778989728563 : Int64))) * (-4265267296055464877 : Int64))
def own_ex (k : Int64) : Int32 := if (own_mx k).toInt32 = (0 : Int32) then (1 : Int32) else (own_mx k).toInt32
theorem own_03 {l : Int32} (h : 0 ≤ l.toInt ∧ l.toInt ≤ 3) : l = 0 ∨ l = 1 ∨ l = 2 ∨ l = 3 := by
  have e : ∀ k : Int32, l.toInt = k.toInt → l = k := fun k q => Int32.toInt_inj.mp q
  have : l.toInt = 0 ∨ l.toInt = 1 ∨ l.toInt = 2 ∨ l.toInt = 3 := by omega
  rcases this with q | q | q | q
  · exact Or.inl (e 0 q)
  · exact Or.inr (Or.inl (e 1 q))
  · exact Or.inr (Or.inr (Or.inl (e 2 q)))
  · exact Or.inr (Or.inr (Or.inr (e 3 q)))

def Q_cPut_1_0 (Z : State) (t : Addr) (kb : ClassId) (ch : Int32) (v0 v1 : Value) (h0 : Heap) (n0 : Nat) : Option Value → Heap → List Loc → Prop := (fun v h L => v = none ∧ Fr n0 L ∧ Keep h0 h [t] ∧ Arv Z h t kb .byte (2 : Int32) [(.int (StrChars.lo8 ch)), (.int (StrChars.hi8 ch))] (.int (0 : Int32)))
set_option maxRecDepth 65536 in
set_option maxHeartbeats 40000000 in
theorem cPut_1_0 (l : Launch) (Z : State) (a0 : Array Value) (hw : ∀ d ∈ tables_1, d.before a0 Z = true) (ws : List Jvm.Cond) (t : Addr) (kb : ClassId) (ch : Int32) (v0 v1 : Value) (h0 : Heap) (n0 : Nat) (Z0 : n0 ≤ h0.size) (OLD : Old Z n0 h0) (SA : Sta Z Z.heap "java/lang/StringUTF16" "$assertionsDisabled" "Z" (.int (1 : Int32))) (SH : Sta Z Z.heap "java/lang/StringUTF16" "HI_BYTE_SHIFT" "I" (.int (0 : Int32))) (SL : Sta Z Z.heap "java/lang/StringUTF16" "LO_BYTE_SHIFT" "I" (.int (8 : Int32))) (V_t : Arv Z h0 t kb .byte (2 : Int32) [v0, v1] (.int (0 : Int32))) (gt : n0 ≤ t) :
    Con l (⟨"java/lang/StringUTF16", "putChar", "([BII)V"⟩ : MethodName) jdk_52_method_4_code 3 none ws ({ frames := 0, cells := 0, slots := 0, locals := 0 } : Room) Z #[(.ref t), (.int (0 : Int32)), (.int ch)] h0 (Q_cPut_1_0 Z t kb ch v0 v1 h0 n0) 0 0 := by
  refine enter (plainFor_of_name pn_0) ?_
  intro p e s m below meth c s₁ hnm hret hlk D0
  rw [ef_cPut_1_0 m t ch]
  refine g_getS D0 3 (hw _ w_98) Via.refl (SA.ext OLD.2) d_jdk_52m4_0 rfl ?_
  intro T101 D101
  refine g_ifY D101 28 d_jdk_52m4_3 (by decide) (by decide) (by decide) ?_
  refine g_iloadN D101 29 d_jdk_52m4_28 rfl rfl ?_
  refine g_iconst D101 30 (1 : Int32) d_jdk_52m4_29 rfl rfl ?_
  refine g_ishl D101 31 d_jdk_52m4_30 rfl ?_
  rw [show ((0 : Int32) <<< ((1 : Int32) &&& 31)) = (0 : Int32) from by decide]
  refine g_istoreN D101 32 #[.val (.ref t), .val (.int (0 : Int32)), .val (.int ch)] d_jdk_52m4_31 rfl rfl ?_
  refine g_aloadN D101 33 d_jdk_52m4_32 rfl rfl rfl ?_
  refine g_iloadN D101 34 d_jdk_52m4_33 rfl rfl ?_
  refine g_iinc D101 37 (1 : Int32) #[.val (.ref t), .val (.int ((0 : Int32) + (1 : Int32))), .val (.int ch)] d_jdk_52m4_34 rfl rfl rfl rfl ?_
  rw [show ((0 : Int32) + (1 : Int32)) = (1 : Int32) from by decide]
  refine g_iloadN D101 38 d_jdk_52m4_37 rfl rfl ?_
  refine g_getS D101 41 (hw _ w_99) Via.refl (SH.ext OLD.2) d_jdk_52m4_38 rfl ?_
  intro T102 D102
  refine g_ishr D102 42 d_jdk_52m4_41 rfl ?_
  refine g_i2b D102 43 d_jdk_52m4_42 rfl ?_
  refine g_bastore D102 44 V_t ⟨by decide, by decide⟩ 0 (by decide) (Nat.le_of_ble_eq_true rfl) (fun _ _ => trivial) d_jdk_52m4_43 rfl ?_
  intro T103 h103 W103 V103 D103
  rw [nb_lo ch] at V103
  replace V103 : Arv Z h103 t kb .byte (2 : Int32) [(.int (StrChars.lo8 ch)), v1] (.int (0 : Int32)) := V103
  have N103 := Fr.snoc D103.st (Fr.nil n0) gt
  refine g_aloadN D103 45 d_jdk_52m4_44 rfl rfl rfl ?_
  refine g_iloadN D103 46 d_jdk_52m4_45 rfl rfl ?_
  refine g_iloadN D103 47 d_jdk_52m4_46 rfl rfl ?_
  refine g_getS D103 50 (hw _ w_100) Via.refl (SL.ext (OLD.wr W103 gt).2) d_jdk_52m4_47 rfl ?_
  intro T104 D104
  refine g_ishr D104 51 d_jdk_52m4_50 rfl ?_
  refine g_i2b D104 52 d_jdk_52m4_51 rfl ?_
  refine g_bastore D104 53 V103 ⟨by decide, by decide⟩ 1 (by decide) (Nat.le_of_ble_eq_true rfl) (fun _ _ => trivial) d_jdk_52m4_52 rfl ?_
  intro T105 h105 W105 V105 D105
  rw [nb_hi ch] at V105
  replace V105 : Arv Z h105 t kb .byte (2 : Int32) [(.int (StrChars.lo8 ch)), (.int (StrChars.hi8 ch))] (.int (0 : Int32)) := V105
  have N105 := Fr.snoc D105.st N103 gt
  exact r_V D105 hret hlk d_jdk_52m4_53 ⟨rfl, N105, (((Keep.refl _ [t]).wr W103 (Or.inl (List.mem_of_getElem? (i := 0) rfl))).wr W105 (Or.inl (List.mem_of_getElem? (i := 0) rfl))), V105⟩ (by decide) (by decide)
set_option maxRecDepth 65536 in
set_option maxHeartbeats 40000000 in
theorem cGet_1_0 (l : Launch) (Z : State) (a0 : Array Value) (hw : ∀ d ∈ tables_1, d.before a0 Z = true) (ws : List Jvm.Cond) (t : Addr) (kb : ClassId) (c0 : Int32) (h0 : Heap) (n0 : Nat) (Z0 : n0 ≤ h0.size) (OLD : Old Z n0 h0) (SA : Sta Z Z.heap "java/lang/StringUTF16" "$assertionsDisabled" "Z" (.int (1 : Int32))) (SH : Sta Z Z.heap "java/lang/StringUTF16" "HI_BYTE_SHIFT" "I" (.int (0 : Int32))) (SL : Sta Z Z.heap "java/lang/StringUTF16" "LO_BYTE_SHIFT" "I" (.int (8 : Int32))) (V_t : Arv Z h0 t kb .byte (2 : Int32) (StrChars.Road.wideBytes [c0]) (.int (0 : Int32))) (Hi : C16 c0) :
    Con l (⟨"java/lang/StringUTF16", "getChar", "([BI)C"⟩ : MethodName) jdk_52_method_5_code 2 (some .char) ws ({ frames := 0, cells := 0, slots := 0, locals := 0 } : Room) Z #[(.ref t), (.int (0 : Int32))] h0 (fun v h L => v = some (.int c0) ∧ L = [] ∧ h = h0) 0 0 := by
  refine enter (plainFor_of_name pn_0) ?_
  intro p e s m below meth c s₁ hnm hret hlk D0
  rw [ef_cGet_1_0 m t]
  refine g_getS D0 3 (hw _ w_98) Via.refl (SA.ext OLD.2) d_jdk_52m5_0 rfl ?_
  intro T106 D106
  refine g_ifY D106 28 d_jdk_52m5_3 (by decide) (by decide) (by decide) ?_
  refine g_iloadN D106 29 d_jdk_52m5_28 rfl rfl ?_
  refine g_iconst D106 30 (1 : Int32) d_jdk_52m5_29 rfl rfl ?_
  refine g_ishl D106 31 d_jdk_52m5_30 rfl ?_
  rw [show ((0 : Int32) <<< ((1 : Int32) &&& 31)) = (0 : Int32) from by decide]
  refine g_istoreN D106 32 #[.val (.ref t), .val (.int (0 : Int32))] d_jdk_52m5_31 rfl rfl ?_
  refine g_aloadN D106 33 d_jdk_52m5_32 rfl rfl rfl ?_
  refine g_iloadN D106 34 d_jdk_52m5_33 rfl rfl ?_
  refine g_iinc D106 37 (1 : Int32) #[.val (.ref t), .val (.int ((0 : Int32) + (1 : Int32)))] d_jdk_52m5_34 rfl rfl rfl rfl ?_
  rw [show ((0 : Int32) + (1 : Int32)) = (1 : Int32) from by decide]
  refine g_baload D106 38 V_t (v := (.int (StrChars.lo8 c0))) ⟨by decide, by decide⟩ rfl d_jdk_52m5_37 rfl ?_
  refine g_sipush D106 41 (255 : Int32) d_jdk_52m5_38 rfl rfl ?_
  refine g_iand D106 42 d_jdk_52m5_41 rfl ?_
  refine g_getS D106 45 (hw _ w_99) Via.refl (SH.ext OLD.2) d_jdk_52m5_42 rfl ?_
  intro T107 D107
  refine g_ishl D107 46 d_jdk_52m5_45 rfl ?_
  refine g_aloadN D107 47 d_jdk_52m5_46 rfl rfl rfl ?_
  refine g_iloadN D107 48 d_jdk_52m5_47 rfl rfl ?_
  refine g_baload D107 49 V_t (v := (.int (StrChars.hi8 c0))) ⟨by decide, by decide⟩ rfl d_jdk_52m5_48 rfl ?_
  refine g_sipush D107 52 (255 : Int32) d_jdk_52m5_49 rfl rfl ?_
  refine g_iand D107 53 d_jdk_52m5_52 rfl ?_
  refine g_getS D107 56 (hw _ w_100) Via.refl (SL.ext OLD.2) d_jdk_52m5_53 rfl ?_
  intro T108 D108
  refine g_ishl D108 57 d_jdk_52m5_56 rfl ?_
  refine g_ior D108 58 d_jdk_52m5_57 rfl ?_
  refine g_i2c D108 59 d_jdk_52m5_58 rfl ?_
  exact r_N D108 hret (by simp) hlk d_jdk_52m5_59 ⟨congrArg (fun z => some (Value.int z)) (get_says Hi), rfl, rfl⟩ (by decide) (by decide)
set_option maxRecDepth 65536 in
set_option maxHeartbeats 40000000 in
theorem cNL_2 (l : Launch) (Z : State) (a0 : Array Value) (hw : ∀ d ∈ tables_1, d.before a0 Z = true) (ws : List Jvm.Cond)  (h0 : Heap) (n0 : Nat) (Z0 : n0 ≤ h0.size)  :
    Con l (⟨"java/lang/StringUTF16", "newBytesLength", "(I)I"⟩ : MethodName) jdk_52_method_3_code 1 (some .int) ws ({ frames := 0, cells := 0, slots := 0, locals := 0 } : Room) Z #[(.int (2 : Int32))] h0 (fun v h L => v = some (.int (4 : Int32)) ∧ L = [] ∧ h = h0) 0 0 := by
  refine enter (plainFor_of_name pn_0) ?_
  intro p e s m below meth c s₁ hnm hret hlk D0
  rw [ef_cNL_2 m]
  refine g_iloadN D0 1 d_jdk_52m3_0 rfl rfl ?_
  refine g_ifY D0 12 d_jdk_52m3_1 (by decide) (by decide) (by decide) ?_
  refine g_iloadN D0 13 d_jdk_52m3_12 rfl rfl ?_
  refine g_ldcI D0 15 (hw _ w_94) d_jdk_52m3_13 rfl ?_
  refine g_icmpY D0 55 d_jdk_52m3_15 (by decide) (by decide) (by decide) ?_
  refine g_iloadN D0 56 d_jdk_52m3_55 rfl rfl ?_
  refine g_iconst D0 57 (1 : Int32) d_jdk_52m3_56 rfl rfl ?_
  refine g_ishl D0 58 d_jdk_52m3_57 rfl ?_
  rw [show ((2 : Int32) <<< ((1 : Int32) &&& 31)) = (4 : Int32) from by decide]
  exact r_I D0 hret hlk d_jdk_52m3_58 ⟨rfl, rfl, rfl⟩ (by decide) (by decide)
def Q_cNB_2 (Z : State)  (h0 : Heap) (n0 : Nat) : Option Value → Heap → List Loc → Prop := (fun v h L => ∃ a k, v = some (.ref a) ∧ h0.size ≤ a ∧ Fr n0 L ∧ Ext h0 h ∧ Arv Z h a k .byte (4 : Int32) [(.int (0 : Int32)), (.int (0 : Int32)), (.int (0 : Int32)), (.int (0 : Int32))] (.int (0 : Int32)))
set_option maxRecDepth 65536 in
set_option maxHeartbeats 40000000 in
theorem cNB_2 (l : Launch) (Z : State) (a0 : Array Value) (hw : ∀ d ∈ tables_1, d.before a0 Z = true) (ws : List Jvm.Cond)  (h0 : Heap) (n0 : Nat) (Z0 : n0 ≤ h0.size)  :
    Con l (⟨"java/lang/StringUTF16", "newBytesFor", "(I)[B"⟩ : MethodName) jdk_52_method_2_code 1 (some (.array .byte)) ws ({ frames := 1, cells := 1, slots := 4, locals := 12 } : Room) Z #[(.int (2 : Int32))] h0 (Q_cNB_2 Z  h0 n0) 1 4 := by
  refine enter (plainFor_of_name pn_0) ?_
  intro p e s m below meth c s₁ hnm hret hlk D0
  rw [ef_cNB_2 m]
  refine g_iloadN D0 1 d_jdk_52m2_0 rfl rfl ?_
  refine g_callSp D0 4 (hw _ w_91) (hw _ w_92) (hw _ w_50) (hw _ w_93) (by decide) ((cNL_2 l Z a0 hw [] h0 n0 Z0).back D0 0 (hw _ w_93) (hw _ w_50) (by decide) (by decide)) rfl [(.int (2 : Int32))] rfl (lenOf pd_0 rfl) rfl (Nat.le_of_eq rfl) (by decide) (by decide) d_jdk_52m2_1 rfl ?_
  intro v109 T109 q109 D109
  subst q109
  show Go p e below _ (T109.setTop (mkF m 4 #[.val (.int (2 : Int32))] [(.int (4 : Int32))]))
  refine g_newP D109 6 (aty := .byte) (hw _ w_16) d_jdk_52m2_4 (by decide) (cap := 4) (by decide) (by decide) (by decide) (by decide) (fun _ _ => trivial) rfl ?_
  intro T110 h110 a110 k110 g110 E110 V110 D110
  have V110' : Arv Z h110 a110 k110 .byte (4 : Int32) [(.int (0 : Int32)), (.int (0 : Int32)), (.int (0 : Int32)), (.int (0 : Int32))] (.int (0 : Int32)) := V110.pad (pad_rep [] (.int (0 : Int32)) 4)
  exact r_A D110 hret rfl rfl hlk d_jdk_52m2_6 ⟨a110, _, rfl, (Nat.le_trans (Nat.le_refl _) (Nat.le_of_eq g110.symm)), (Fr.nil n0), Keep.toExt ((Keep.refl _ []).ext E110), V110'⟩ (by decide) (by decide)
def Q_cPut_2_0 (Z : State) (t : Addr) (kb : ClassId) (ch : Int32) (v0 v1 v2 v3 : Value) (h0 : Heap) (n0 : Nat) : Option Value → Heap → List Loc → Prop := (fun v h L => v = none ∧ Fr n0 L ∧ Keep h0 h [t] ∧ Arv Z h t kb .byte (4 : Int32) [(.int (StrChars.lo8 ch)), (.int (StrChars.hi8 ch)), v2, v3] (.int (0 : Int32)))
set_option maxRecDepth 65536 in
set_option maxHeartbeats 40000000 in
theorem cPut_2_0 (l : Launch) (Z : State) (a0 : Array Value) (hw : ∀ d ∈ tables_1, d.before a0 Z = true) (ws : List Jvm.Cond) (t : Addr) (kb : ClassId) (ch : Int32) (v0 v1 v2 v3 : Value) (h0 : Heap) (n0 : Nat) (Z0 : n0 ≤ h0.size) (OLD : Old Z n0 h0) (SA : Sta Z Z.heap "java/lang/StringUTF16" "$assertionsDisabled" "Z" (.int (1 : Int32))) (SH : Sta Z Z.heap "java/lang/StringUTF16" "HI_BYTE_SHIFT" "I" (.int (0 : Int32))) (SL : Sta Z Z.heap "java/lang/StringUTF16" "LO_BYTE_SHIFT" "I" (.int (8 : Int32))) (V_t : Arv Z h0 t kb .byte (4 : Int32) [v0, v1, v2, v3] (.int (0 : Int32))) (gt : n0 ≤ t) :
    Con l (⟨"java/lang/StringUTF16", "putChar", "([BII)V"⟩ : MethodName) jdk_52_method_4_code 3 none ws ({ frames := 0, cells := 0, slots := 0, locals := 0 } : Room) Z #[(.ref t), (.int (0 : Int32)), (.int ch)] h0 (Q_cPut_2_0 Z t kb ch v0 v1 v2 v3 h0 n0) 0 0 := by
  refine enter (plainFor_of_name pn_0) ?_
  intro p e s m below meth c s₁ hnm hret hlk D0
  rw [ef_cPut_2_0 m t ch]
  refine g_getS D0 3 (hw _ w_98) Via.refl (SA.ext OLD.2) d_jdk_52m4_0 rfl ?_
  intro T111 D111
  refine g_ifY D111 28 d_jdk_52m4_3 (by decide) (by decide) (by decide) ?_
  refine g_iloadN D111 29 d_jdk_52m4_28 rfl rfl ?_
  refine g_iconst D111 30 (1 : Int32) d_jdk_52m4_29 rfl rfl ?_
  refine g_ishl D111 31 d_jdk_52m4_30 rfl ?_
  rw [show ((0 : Int32) <<< ((1 : Int32) &&& 31)) = (0 : Int32) from by decide]
  refine g_istoreN D111 32 #[.val (.ref t), .val (.int (0 : Int32)), .val (.int ch)] d_jdk_52m4_31 rfl rfl ?_
  refine g_aloadN D111 33 d_jdk_52m4_32 rfl rfl rfl ?_
  refine g_iloadN D111 34 d_jdk_52m4_33 rfl rfl ?_
  refine g_iinc D111 37 (1 : Int32) #[.val (.ref t), .val (.int ((0 : Int32) + (1 : Int32))), .val (.int ch)] d_jdk_52m4_34 rfl rfl rfl rfl ?_
  rw [show ((0 : Int32) + (1 : Int32)) = (1 : Int32) from by decide]
  refine g_iloadN D111 38 d_jdk_52m4_37 rfl rfl ?_
  refine g_getS D111 41 (hw _ w_99) Via.refl (SH.ext OLD.2) d_jdk_52m4_38 rfl ?_
  intro T112 D112
  refine g_ishr D112 42 d_jdk_52m4_41 rfl ?_
  refine g_i2b D112 43 d_jdk_52m4_42 rfl ?_
  refine g_bastore D112 44 V_t ⟨by decide, by decide⟩ 0 (by decide) (Nat.le_of_ble_eq_true rfl) (fun _ _ => trivial) d_jdk_52m4_43 rfl ?_
  intro T113 h113 W113 V113 D113
  rw [nb_lo ch] at V113
  replace V113 : Arv Z h113 t kb .byte (4 : Int32) [(.int (StrChars.lo8 ch)), v1, v2, v3] (.int (0 : Int32)) := V113
  have N113 := Fr.snoc D113.st (Fr.nil n0) gt
  refine g_aloadN D113 45 d_jdk_52m4_44 rfl rfl rfl ?_
  refine g_iloadN D113 46 d_jdk_52m4_45 rfl rfl ?_
  refine g_iloadN D113 47 d_jdk_52m4_46 rfl rfl ?_
  refine g_getS D113 50 (hw _ w_100) Via.refl (SL.ext (OLD.wr W113 gt).2) d_jdk_52m4_47 rfl ?_
  intro T114 D114
  refine g_ishr D114 51 d_jdk_52m4_50 rfl ?_
  refine g_i2b D114 52 d_jdk_52m4_51 rfl ?_
  refine g_bastore D114 53 V113 ⟨by decide, by decide⟩ 1 (by decide) (Nat.le_of_ble_eq_true rfl) (fun _ _ => trivial) d_jdk_52m4_52 rfl ?_
  intro T115 h115 W115 V115 D115
  rw [nb_hi ch] at V115
  replace V115 : Arv Z h115 t kb .byte (4 : Int32) [(.int (StrChars.lo8 ch)), (.int (StrChars.hi8 ch)), v2, v3] (.int (0 : Int32)) := V115
  have N115 := Fr.snoc D115.st N113 gt
  exact r_V D115 hret hlk d_jdk_52m4_53 ⟨rfl, N115, (((Keep.refl _ [t]).wr W113 (Or.inl (List.mem_of_getElem? (i := 0) rfl))).wr W115 (Or.inl (List.mem_of_getElem? (i := 0) rfl))), V115⟩ (by decide) (by decide)
set_option maxRecDepth 65536 in
set_option maxHeartbeats 40000000 in
theorem cGet_2_0 (l : Launch) (Z : State) (a0 : Array Value) (hw : ∀ d ∈ tables_1, d.before a0 Z = true) (ws : List Jvm.Cond) (t : Addr) (kb : ClassId) (c0 c1 : Int32) (h0 : Heap) (n0 : Nat) (Z0 : n0 ≤ h0.size) (OLD : Old Z n0 h0) (SA : Sta Z Z.heap "java/lang/StringUTF16" "$assertionsDisabled" "Z" (.int (1 : Int32))) (SH : Sta Z Z.heap "java/lang/StringUTF16" "HI_BYTE_SHIFT" "I" (.int (0 : Int32))) (SL : Sta Z Z.heap "java/lang/StringUTF16" "LO_BYTE_SHIFT" "I" (.int (8 : Int32))) (V_t : Arv Z h0 t kb .byte (4 : Int32) (StrChars.Road.wideBytes [c0, c1]) (.int (0 : Int32))) (Hi : C16 c0) :
    Con l (⟨"java/lang/StringUTF16", "getChar", "([BI)C"⟩ : MethodName) jdk_52_method_5_code 2 (some .char) ws ({ frames := 0, cells := 0, slots := 0, locals := 0 } : Room) Z #[(.ref t), (.int (0 : Int32))] h0 (fun v h L => v = some (.int c0) ∧ L = [] ∧ h = h0) 0 0 := by
  refine enter (plainFor_of_name pn_0) ?_
  intro p e s m below meth c s₁ hnm hret hlk D0
  rw [ef_cGet_2_0 m t]
  refine g_getS D0 3 (hw _ w_98) Via.refl (SA.ext OLD.2) d_jdk_52m5_0 rfl ?_
  intro T116 D116
  refine g_ifY D116 28 d_jdk_52m5_3 (by decide) (by decide) (by decide) ?_
  refine g_iloadN D116 29 d_jdk_52m5_28 rfl rfl ?_
  refine g_iconst D116 30 (1 : Int32) d_jdk_52m5_29 rfl rfl ?_
  refine g_ishl D116 31 d_jdk_52m5_30 rfl ?_
  rw [show ((0 : Int32) <<< ((1 : Int32) &&& 31)) = (0 : Int32) from by decide]
  refine g_istoreN D116 32 #[.val (.ref t), .val (.int (0 : Int32))] d_jdk_52m5_31 rfl rfl ?_
  refine g_aloadN D116 33 d_jdk_52m5_32 rfl rfl rfl ?_
  refine g_iloadN D116 34 d_jdk_52m5_33 rfl rfl ?_
  refine g_iinc D116 37 (1 : Int32) #[.val (.ref t), .val (.int ((0 : Int32) + (1 : Int32)))] d_jdk_52m5_34 rfl rfl rfl rfl ?_
  rw [show ((0 : Int32) + (1 : Int32)) = (1 : Int32) from by decide]
  refine g_baload D116 38 V_t (v := (.int (StrChars.lo8 c0))) ⟨by decide, by decide⟩ rfl d_jdk_52m5_37 rfl ?_
  refine g_sipush D116 41 (255 : Int32) d_jdk_52m5_38 rfl rfl ?_
  refine g_iand D116 42 d_jdk_52m5_41 rfl ?_
  refine g_getS D116 45 (hw _ w_99) Via.refl (SH.ext OLD.2) d_jdk_52m5_42 rfl ?_
  intro T117 D117
  refine g_ishl D117 46 d_jdk_52m5_45 rfl ?_
  refine g_aloadN D117 47 d_jdk_52m5_46 rfl rfl rfl ?_
  refine g_iloadN D117 48 d_jdk_52m5_47 rfl rfl ?_
  refine g_baload D117 49 V_t (v := (.int (StrChars.hi8 c0))) ⟨by decide, by decide⟩ rfl d_jdk_52m5_48 rfl ?_
  refine g_sipush D117 52 (255 : Int32) d_jdk_52m5_49 rfl rfl ?_
  refine g_iand D117 53 d_jdk_52m5_52 rfl ?_
  refine g_getS D117 56 (hw _ w_100) Via.refl (SL.ext OLD.2) d_jdk_52m5_53 rfl ?_
  intro T118 D118
  refine g_ishl D118 57 d_jdk_52m5_56 rfl ?_
  refine g_ior D118 58 d_jdk_52m5_57 rfl ?_
  refine g_i2c D118 59 d_jdk_52m5_58 rfl ?_
  exact r_N D118 hret (by simp) hlk d_jdk_52m5_59 ⟨congrArg (fun z => some (Value.int z)) (get_says Hi), rfl, rfl⟩ (by decide) (by decide)
def Q_cPut_2_1 (Z : State) (t : Addr) (kb : ClassId) (ch : Int32) (v0 v1 v2 v3 : Value) (h0 : Heap) (n0 : Nat) : Option Value → Heap → List Loc → Prop := (fun v h L => v = none ∧ Fr n0 L ∧ Keep h0 h [t] ∧ Arv Z h t kb .byte (4 : Int32) [v0, v1, (.int (StrChars.lo8 ch)), (.int (StrChars.hi8 ch))] (.int (0 : Int32)))
set_option maxRecDepth 65536 in
set_option maxHeartbeats 40000000 in
theorem cPut_2_1 (l : Launch) (Z : State) (a0 : Array Value) (hw : ∀ d ∈ tables_1, d.before a0 Z = true) (ws : List Jvm.Cond) (t : Addr) (kb : ClassId) (ch : Int32) (v0 v1 v2 v3 : Value) (h0 : Heap) (n0 : Nat) (Z0 : n0 ≤ h0.size) (OLD : Old Z n0 h0) (SA : Sta Z Z.heap "java/lang/StringUTF16" "$assertionsDisabled" "Z" (.int (1 : Int32))) (SH : Sta Z Z.heap "java/lang/StringUTF16" "HI_BYTE_SHIFT" "I" (.int (0 : Int32))) (SL : Sta Z Z.heap "java/lang/StringUTF16" "LO_BYTE_SHIFT" "I" (.int (8 : Int32))) (V_t : Arv Z h0 t kb .byte (4 : Int32) [v0, v1, v2, v3] (.int (0 : Int32))) (gt : n0 ≤ t) :
    Con l (⟨"java/lang/StringUTF16", "putChar", "([BII)V"⟩ : MethodName) jdk_52_method_4_code 3 none ws ({ frames := 0, cells := 0, slots := 0, locals := 0 } : Room) Z #[(.ref t), (.int (1 : Int32)), (.int ch)] h0 (Q_cPut_2_1 Z t kb ch v0 v1 v2 v3 h0 n0) 0 0 := by
  refine enter (plainFor_of_name pn_0) ?_
  intro p e s m below meth c s₁ hnm hret hlk D0
  rw [ef_cPut_2_1 m t ch]
  refine g_getS D0 3 (hw _ w_98) Via.refl (SA.ext OLD.2) d_jdk_52m4_0 rfl ?_
  intro T119 D119
  refine g_ifY D119 28 d_jdk_52m4_3 (by decide) (by decide) (by decide) ?_
  refine g_iloadN D119 29 d_jdk_52m4_28 rfl rfl ?_
  refine g_iconst D119 30 (1 : Int32) d_jdk_52m4_29 rfl rfl ?_
  refine g_ishl D119 31 d_jdk_52m4_30 rfl ?_
  rw [show ((1 : Int32) <<< ((1 : Int32) &&& 31)) = (2 : Int32) from by decide]
  refine g_istoreN D119 32 #[.val (.ref t), .val (.int (2 : Int32)), .val (.int ch)] d_jdk_52m4_31 rfl rfl ?_
  refine g_aloadN D119 33 d_jdk_52m4_32 rfl rfl rfl ?_
  refine g_iloadN D119 34 d_jdk_52m4_33 rfl rfl ?_
  refine g_iinc D119 37 (1 : Int32) #[.val (.ref t), .val (.int ((2 : Int32) + (1 : Int32))), .val (.int ch)] d_jdk_52m4_34 rfl rfl rfl rfl ?_
  rw [show ((2 : Int32) + (1 : Int32)) = (3 : Int32) from by decide]
  refine g_iloadN D119 38 d_jdk_52m4_37 rfl rfl ?_
  refine g_getS D119 41 (hw _ w_99) Via.refl (SH.ext OLD.2) d_jdk_52m4_38 rfl ?_
  intro T120 D120
  refine g_ishr D120 42 d_jdk_52m4_41 rfl ?_
  refine g_i2b D120 43 d_jdk_52m4_42 rfl ?_
  refine g_bastore D120 44 V_t ⟨by decide, by decide⟩ 2 (by decide) (Nat.le_of_ble_eq_true rfl) (fun _ _ => trivial) d_jdk_52m4_43 rfl ?_
  intro T121 h121 W121 V121 D121
  rw [nb_lo ch] at V121
  replace V121 : Arv Z h121 t kb .byte (4 : Int32) [v0, v1, (.int (StrChars.lo8 ch)), v3] (.int (0 : Int32)) := V121
  have N121 := Fr.snoc D121.st (Fr.nil n0) gt
  refine g_aloadN D121 45 d_jdk_52m4_44 rfl rfl rfl ?_
  refine g_iloadN D121 46 d_jdk_52m4_45 rfl rfl ?_
  refine g_iloadN D121 47 d_jdk_52m4_46 rfl rfl ?_
  refine g_getS D121 50 (hw _ w_100) Via.refl (SL.ext (OLD.wr W121 gt).2) d_jdk_52m4_47 rfl ?_
  intro T122 D122
  refine g_ishr D122 51 d_jdk_52m4_50 rfl ?_
  refine g_i2b D122 52 d_jdk_52m4_51 rfl ?_
  refine g_bastore D122 53 V121 ⟨by decide, by decide⟩ 3 (by decide) (Nat.le_of_ble_eq_true rfl) (fun _ _ => trivial) d_jdk_52m4_52 rfl ?_
  intro T123 h123 W123 V123 D123
  rw [nb_hi ch] at V123
  replace V123 : Arv Z h123 t kb .byte (4 : Int32) [v0, v1, (.int (StrChars.lo8 ch)), (.int (StrChars.hi8 ch))] (.int (0 : Int32)) := V123
  have N123 := Fr.snoc D123.st N121 gt
  exact r_V D123 hret hlk d_jdk_52m4_53 ⟨rfl, N123, (((Keep.refl _ [t]).wr W121 (Or.inl (List.mem_of_getElem? (i := 0) rfl))).wr W123 (Or.inl (List.mem_of_getElem? (i := 0) rfl))), V123⟩ (by decide) (by decide)
set_option maxRecDepth 65536 in
set_option maxHeartbeats 40000000 in
theorem cGet_2_1 (l : Launch) (Z : State) (a0 : Array Value) (hw : ∀ d ∈ tables_1, d.before a0 Z = true) (ws : List Jvm.Cond) (t : Addr) (kb : ClassId) (c0 c1 : Int32) (h0 : Heap) (n0 : Nat) (Z0 : n0 ≤ h0.size) (OLD : Old Z n0 h0) (SA : Sta Z Z.heap "java/lang/StringUTF16" "$assertionsDisabled" "Z" (.int (1 : Int32))) (SH : Sta Z Z.heap "java/lang/StringUTF16" "HI_BYTE_SHIFT" "I" (.int (0 : Int32))) (SL : Sta Z Z.heap "java/lang/StringUTF16" "LO_BYTE_SHIFT" "I" (.int (8 : Int32))) (V_t : Arv Z h0 t kb .byte (4 : Int32) (StrChars.Road.wideBytes [c0, c1]) (.int (0 : Int32))) (Hi : C16 c1) :
    Con l (⟨"java/lang/StringUTF16", "getChar", "([BI)C"⟩ : MethodName) jdk_52_method_5_code 2 (some .char) ws ({ frames := 0, cells := 0, slots := 0, locals := 0 } : Room) Z #[(.ref t), (.int (1 : Int32))] h0 (fun v h L => v = some (.int c1) ∧ L = [] ∧ h = h0) 0 0 := by
  refine enter (plainFor_of_name pn_0) ?_
  intro p e s m below meth c s₁ hnm hret hlk D0
  rw [ef_cGet_2_1 m t]
  refine g_getS D0 3 (hw _ w_98) Via.refl (SA.ext OLD.2) d_jdk_52m5_0 rfl ?_
  intro T124 D124
  refine g_ifY D124 28 d_jdk_52m5_3 (by decide) (by decide) (by decide) ?_
  refine g_iloadN D124 29 d_jdk_52m5_28 rfl rfl ?_
  refine g_iconst D124 30 (1 : Int32) d_jdk_52m5_29 rfl rfl ?_
  refine g_ishl D124 31 d_jdk_52m5_30 rfl ?_
  rw [show ((1 : Int32) <<< ((1 : Int32) &&& 31)) = (2 : Int32) from by decide]
  refine g_istoreN D124 32 #[.val (.ref t), .val (.int (2 : Int32))] d_jdk_52m5_31 rfl rfl ?_
  refine g_aloadN D124 33 d_jdk_52m5_32 rfl rfl rfl ?_
  refine g_iloadN D124 34 d_jdk_52m5_33 rfl rfl ?_
  refine g_iinc D124 37 (1 : Int32) #[.val (.ref t), .val (.int ((2 : Int32) + (1 : Int32)))] d_jdk_52m5_34 rfl rfl rfl rfl ?_
  rw [show ((2 : Int32) + (1 : Int32)) = (3 : Int32) from by decide]
  refine g_baload D124 38 V_t (v := (.int (StrChars.lo8 c1))) ⟨by decide, by decide⟩ rfl d_jdk_52m5_37 rfl ?_
  refine g_sipush D124 41 (255 : Int32) d_jdk_52m5_38 rfl rfl ?_
  refine g_iand D124 42 d_jdk_52m5_41 rfl ?_
  refine g_getS D124 45 (hw _ w_99) Via.refl (SH.ext OLD.2) d_jdk_52m5_42 rfl ?_
  intro T125 D125
  refine g_ishl D125 46 d_jdk_52m5_45 rfl ?_
  refine g_aloadN D125 47 d_jdk_52m5_46 rfl rfl rfl ?_
  refine g_iloadN D125 48 d_jdk_52m5_47 rfl rfl ?_
  refine g_baload D125 49 V_t (v := (.int (StrChars.hi8 c1))) ⟨by decide, by decide⟩ rfl d_jdk_52m5_48 rfl ?_
  refine g_sipush D125 52 (255 : Int32) d_jdk_52m5_49 rfl rfl ?_
  refine g_iand D125 53 d_jdk_52m5_52 rfl ?_
  refine g_getS D125 56 (hw _ w_100) Via.refl (SL.ext OLD.2) d_jdk_52m5_53 rfl ?_
  intro T126 D126
  refine g_ishl D126 57 d_jdk_52m5_56 rfl ?_
  refine g_ior D126 58 d_jdk_52m5_57 rfl ?_
  refine g_i2c D126 59 d_jdk_52m5_58 rfl ?_
  exact r_N D126 hret (by simp) hlk d_jdk_52m5_59 ⟨congrArg (fun z => some (Value.int z)) (get_says Hi), rfl, rfl⟩ (by decide) (by decide)
def Q_cToB_2 (Z : State) (b : Addr) (kc : ClassId) (c0 c1 : Int32) (h0 : Heap) (n0 : Nat) : Option Value → Heap → List Loc → Prop := (fun v h L => ∃ t k, v = some (.ref t) ∧ h0.size ≤ t ∧ Fr n0 L ∧ Ext h0 h ∧ Arv Z h t k .byte (4 : Int32) (StrChars.Road.wideBytes [c0, c1]) (.int (0 : Int32)))
set_option maxRecDepth 65536 in
set_option maxHeartbeats 40000000 in
theorem cToB_2 (l : Launch) (Z : State) (a0 : Array Value) (hw : ∀ d ∈ tables_1, d.before a0 Z = true) (ws : List Jvm.Cond) (b : Addr) (kc : ClassId) (c0 c1 : Int32) (h0 : Heap) (n0 : Nat) (Z0 : n0 ≤ h0.size) (OLD : Old Z n0 h0) (SA : Sta Z Z.heap "java/lang/StringUTF16" "$assertionsDisabled" "Z" (.int (1 : Int32))) (SH : Sta Z Z.heap "java/lang/StringUTF16" "HI_BYTE_SHIFT" "I" (.int (0 : Int32))) (SL : Sta Z Z.heap "java/lang/StringUTF16" "LO_BYTE_SHIFT" "I" (.int (8 : Int32))) (V_b : Arv Z h0 b kc .char (2 : Int32) [(.int c0), (.int c1)] (.int (0 : Int32))) :
    Con l (⟨"java/lang/StringUTF16", "toBytes", "([CII)[B"⟩ : MethodName) jdk_52_method_14_code 5 (some (.array .byte)) ws ({ frames := 2, cells := 1, slots := 4, locals := 24 } : Room) Z #[(.ref b), (.int (0 : Int32)), (.int (2 : Int32))] h0 (Q_cToB_2 Z b kc c0 c1 h0 n0) 1 4 := by
  refine enter (plainFor_of_name pn_0) ?_
  intro p e s m below meth c s₁ hnm hret hlk D0
  rw [ef_cToB_2 m b]
  refine g_iloadN D0 1 d_jdk_52m14_0 rfl rfl ?_
  refine g_callS D0 4 (hw _ w_88) (hw _ w_89) (hw _ w_50) (hw _ w_90) (by decide) ((cNB_2 l Z a0 hw [] h0 n0 Z0).back D0 0 (hw _ w_90) (hw _ w_50) (by decide) (by decide)) rfl [(.int (2 : Int32))] rfl (lenOf pd_1 rfl) rfl (Nat.le_of_eq rfl) (by decide) (by decide) (fun _ _ _ _ => trivial) d_jdk_52m14_1 rfl ?_
  intro v127 T127 h127 L127 q127 D127
  obtain ⟨t127, k127, rfl, g127, N127, E127, V127⟩ := q127
  have NF127 := Fr.app (Fr.nil n0) N127
  show Go p e below _ (T127.setTop (mkF m 4 #[.val (.ref b), .val (.int (0 : Int32)), .val (.int (2 : Int32)), .unset, .unset] [(.ref t127)]))
  refine g_astoreN D127 5 #[.val (.ref b), .val (.int (0 : Int32)), .val (.int (2 : Int32)), .val (.ref t127), .unset] d_jdk_52m14_4 rfl rfl rfl ?_
  refine g_iconst D127 6 (0 : Int32) d_jdk_52m14_5 rfl rfl ?_
  refine g_istore D127 8 #[.val (.ref b), .val (.int (0 : Int32)), .val (.int (2 : Int32)), .val (.ref t127), .val (.int (0 : Int32))] d_jdk_52m14_6 rfl rfl ?_
  refine g_iload D127 10 d_jdk_52m14_8 rfl rfl ?_
  refine g_iloadN D127 11 d_jdk_52m14_10 rfl rfl ?_
  refine g_icmpN D127 14 d_jdk_52m14_11 (by decide) rfl ?_
  refine g_aloadN D127 15 d_jdk_52m14_14 rfl rfl rfl ?_
  refine g_iload D127 17 d_jdk_52m14_15 rfl rfl ?_
  refine g_aloadN D127 18 d_jdk_52m14_17 rfl rfl rfl ?_
  refine g_iloadN D127 19 d_jdk_52m14_18 rfl rfl ?_
  refine g_caload D127 20 (V_b.ext E127) (v := (.int c0)) ⟨by decide, by decide⟩ rfl d_jdk_52m14_19 rfl ?_
  refine g_callS D127 23 (hw _ w_95) (hw _ w_96) (hw _ w_50) (hw _ w_97) (by decide) ((cPut_2_0 l Z a0 hw [] t127 k127 c0 (.int (0 : Int32)) (.int (0 : Int32)) (.int (0 : Int32)) (.int (0 : Int32)) h127 n0 (Nat.le_trans Z0 E127.1) (OLD.ext E127) SA SH SL V127 (Nat.le_trans Z0 g127)).back D127 0 (hw _ w_97) (hw _ w_50) (by decide) (by decide)) rfl [(.ref t127), (.int (0 : Int32)), (.int c0)] rfl (lenOf pd_2 rfl) rfl (Nat.le_of_eq rfl) (by decide) (by decide) (fun _ _ _ _ => trivial) d_jdk_52m14_20 rfl ?_
  intro v128 T128 h128 L128 q128 D128
  obtain ⟨rfl, N128, K128, V128⟩ := q128
  have NF128 := Fr.app NF127 N128
  show Go p e below _ (T128.setTop (mkF m 23 #[.val (.ref b), .val (.int (0 : Int32)), .val (.int (2 : Int32)), .val (.ref t127), .val (.int (0 : Int32))] []))
  refine g_iinc D128 26 (1 : Int32) #[.val (.ref b), .val (.int ((0 : Int32) + (1 : Int32))), .val (.int (2 : Int32)), .val (.ref t127), .val (.int (0 : Int32))] d_jdk_52m14_23 rfl rfl rfl rfl ?_
  rw [show ((0 : Int32) + (1 : Int32)) = (1 : Int32) from by decide]
  refine g_iinc D128 29 (1 : Int32) #[.val (.ref b), .val (.int (1 : Int32)), .val (.int (2 : Int32)), .val (.ref t127), .val (.int ((0 : Int32) + (1 : Int32)))] d_jdk_52m14_26 rfl rfl rfl rfl ?_
  rw [show ((0 : Int32) + (1 : Int32)) = (1 : Int32) from by decide]
  refine g_goto D128 8 d_jdk_52m14_29 (by decide) (by decide) ?_
  refine g_iload D128 10 d_jdk_52m14_8 rfl rfl ?_
  refine g_iloadN D128 11 d_jdk_52m14_10 rfl rfl ?_
  refine g_icmpN D128 14 d_jdk_52m14_11 (by decide) rfl ?_
  refine g_aloadN D128 15 d_jdk_52m14_14 rfl rfl rfl ?_
  refine g_iload D128 17 d_jdk_52m14_15 rfl rfl ?_
  refine g_aloadN D128 18 d_jdk_52m14_17 rfl rfl rfl ?_
  refine g_iloadN D128 19 d_jdk_52m14_18 rfl rfl ?_
  refine g_caload D128 20 ((V_b.ext E127).keep K128 (ninS (Nat.ne_of_lt (Nat.lt_of_lt_of_le V_b.lt g127)) nin0)) (v := (.int c1)) ⟨by decide, by decide⟩ rfl d_jdk_52m14_19 rfl ?_
  refine g_callS D128 23 (hw _ w_95) (hw _ w_96) (hw _ w_50) (hw _ w_97) (by decide) ((cPut_2_1 l Z a0 hw [] t127 k127 c1 (.int (StrChars.lo8 c0)) (.int (StrChars.hi8 c0)) (.int (0 : Int32)) (.int (0 : Int32)) h128 n0 (Nat.le_trans (Nat.le_trans Z0 E127.1) K128.1) ((OLD.ext E127).keep K128 (allS (Nat.le_trans Z0 g127) all0)) SA SH SL V128 (Nat.le_trans Z0 g127)).back D128 0 (hw _ w_97) (hw _ w_50) (by decide) (by decide)) rfl [(.ref t127), (.int (1 : Int32)), (.int c1)] rfl (lenOf pd_2 rfl) rfl (Nat.le_of_eq rfl) (by decide) (by decide) (fun _ _ _ _ => trivial) d_jdk_52m14_20 rfl ?_
  intro v129 T129 h129 L129 q129 D129
  obtain ⟨rfl, N129, K129, V129⟩ := q129
  have NF129 := Fr.app NF128 N129
  show Go p e below _ (T129.setTop (mkF m 23 #[.val (.ref b), .val (.int (1 : Int32)), .val (.int (2 : Int32)), .val (.ref t127), .val (.int (1 : Int32))] []))
  refine g_iinc D129 26 (1 : Int32) #[.val (.ref b), .val (.int ((1 : Int32) + (1 : Int32))), .val (.int (2 : Int32)), .val (.ref t127), .val (.int (1 : Int32))] d_jdk_52m14_23 rfl rfl rfl rfl ?_
  rw [show ((1 : Int32) + (1 : Int32)) = (2 : Int32) from by decide]
  refine g_iinc D129 29 (1 : Int32) #[.val (.ref b), .val (.int (2 : Int32)), .val (.int (2 : Int32)), .val (.ref t127), .val (.int ((1 : Int32) + (1 : Int32)))] d_jdk_52m14_26 rfl rfl rfl rfl ?_
  rw [show ((1 : Int32) + (1 : Int32)) = (2 : Int32) from by decide]
  refine g_goto D129 8 d_jdk_52m14_29 (by decide) (by decide) ?_
  refine g_iload D129 10 d_jdk_52m14_8 rfl rfl ?_
  refine g_iloadN D129 11 d_jdk_52m14_10 rfl rfl ?_
  refine g_icmpY D129 32 d_jdk_52m14_11 (by decide) (by decide) (by decide) ?_
  refine g_aloadN D129 33 d_jdk_52m14_32 rfl rfl rfl ?_
  exact r_A D129 hret rfl rfl hlk d_jdk_52m14_33 ⟨t127, k127, rfl, (Nat.le_trans (Nat.le_refl _) g127), NF129, Keep.toExt ((((Keep.refl _ []).ext E127).trans K128 (allS (Or.inr (Nat.le_trans (Nat.le_refl _) g127)) all0)).trans K129 (allS (Or.inr (Nat.le_trans (Nat.le_refl _) g127)) all0)), V129⟩ (by decide) (by decide)
def Q_cC5_2_0 (Z : State) (b d : Addr) (kc kd : ClassId) (c0 c1 : Int32) (h0 : Heap) (n0 : Nat) : Option Value → Heap → List Loc → Prop := (fun v h L => v = some (.int (0 : Int32)) ∧ Fr n0 L ∧ Keep h0 h [d] ∧ Arv Z h d kd .byte (2 : Int32) [(.int (0 : Int32)), (.int (0 : Int32))] (.int (0 : Int32)))
set_option maxRecDepth 65536 in
set_option maxHeartbeats 40000000 in
theorem cC5_2_0 (l : Launch) (Z : State) (a0 : Array Value) (hw : ∀ d ∈ tables_1, d.before a0 Z = true) (ws : List Jvm.Cond) (b d : Addr) (kc kd : ClassId) (c0 c1 : Int32) (h0 : Heap) (n0 : Nat) (Z0 : n0 ≤ h0.size) (V_b : Arv Z h0 b kc .char (2 : Int32) [(.int c0), (.int c1)] (.int (0 : Int32))) (V_d : Arv Z h0 d kd .byte (2 : Int32) [(.int (0 : Int32)), (.int (0 : Int32))] (.int (0 : Int32))) (gd : n0 ≤ d) (nbd : b ≠ d) (q0 : (255 : Int32) < c0) :
    Con l (⟨"java/lang/StringUTF16", "compress", "([CI[BII)I"⟩ : MethodName) jdk_52_method_21_code 7 (some .int) ws ({ frames := 0, cells := 0, slots := 0, locals := 0 } : Room) Z #[(.ref b), (.int (0 : Int32)), (.ref d), (.int (0 : Int32)), (.int (2 : Int32))] h0 (Q_cC5_2_0 Z b d kc kd c0 c1 h0 n0) 0 0 := by
  refine enter (plainFor_of_name pn_0) ?_
  intro p e s m below meth c s₁ hnm hret hlk D0
  rw [ef_cC5_2_0 m b d]
  refine g_iconst D0 1 (0 : Int32) d_jdk_52m21_0 rfl rfl ?_
  refine g_istore D0 3 #[.val (.ref b), .val (.int (0 : Int32)), .val (.ref d), .val (.int (0 : Int32)), .val (.int (2 : Int32)), .val (.int (0 : Int32)), .unset] d_jdk_52m21_1 rfl rfl ?_
  refine g_iload D0 5 d_jdk_52m21_3 rfl rfl ?_
  refine g_iload D0 7 d_jdk_52m21_5 rfl rfl ?_
  refine g_icmpN D0 10 d_jdk_52m21_7 (by decide) rfl ?_
  refine g_aloadN D0 11 d_jdk_52m21_10 rfl rfl rfl ?_
  refine g_iloadN D0 12 d_jdk_52m21_11 rfl rfl ?_
  refine g_caload D0 13 V_b (v := (.int c0)) ⟨by decide, by decide⟩ rfl d_jdk_52m21_12 rfl ?_
  refine g_istore D0 15 #[.val (.ref b), .val (.int (0 : Int32)), .val (.ref d), .val (.int (0 : Int32)), .val (.int (2 : Int32)), .val (.int (0 : Int32)), .val (.int c0)] d_jdk_52m21_13 rfl rfl ?_
  refine g_iload D0 17 d_jdk_52m21_15 rfl rfl ?_
  refine g_sipush D0 20 (255 : Int32) d_jdk_52m21_17 rfl rfl ?_
  refine g_icmpN D0 23 d_jdk_52m21_20 (tlt q0).2.2.2 rfl ?_
  refine g_iload D0 25 d_jdk_52m21_23 rfl rfl ?_
  exact r_I D0 hret hlk d_jdk_52m21_25 ⟨rfl, (Fr.nil n0), (Keep.refl _ [d]), V_d⟩ (by decide) (by decide)
def Q_cC5_2_1 (Z : State) (b d : Addr) (kc kd : ClassId) (c0 c1 : Int32) (h0 : Heap) (n0 : Nat) : Option Value → Heap → List Loc → Prop := (fun v h L => v = some (.int (1 : Int32)) ∧ Fr n0 L ∧ Keep h0 h [d] ∧ Arv Z h d kd .byte (2 : Int32) [(.int (StrChars.lo8 c0)), (.int (0 : Int32))] (.int (0 : Int32)))
set_option maxRecDepth 65536 in
set_option maxHeartbeats 40000000 in
theorem cC5_2_1 (l : Launch) (Z : State) (a0 : Array Value) (hw : ∀ d ∈ tables_1, d.before a0 Z = true) (ws : List Jvm.Cond) (b d : Addr) (kc kd : ClassId) (c0 c1 : Int32) (h0 : Heap) (n0 : Nat) (Z0 : n0 ≤ h0.size) (V_b : Arv Z h0 b kc .char (2 : Int32) [(.int c0), (.int c1)] (.int (0 : Int32))) (V_d : Arv Z h0 d kd .byte (2 : Int32) [(.int (0 : Int32)), (.int (0 : Int32))] (.int (0 : Int32))) (gd : n0 ≤ d) (nbd : b ≠ d) (q0 : ¬ (255 : Int32) < c0) (q1 : (255 : Int32) < c1) :
    Con l (⟨"java/lang/StringUTF16", "compress", "([CI[BII)I"⟩ : MethodName) jdk_52_method_21_code 7 (some .int) ws ({ frames := 0, cells := 0, slots := 0, locals := 0 } : Room) Z #[(.ref b), (.int (0 : Int32)), (.ref d), (.int (0 : Int32)), (.int (2 : Int32))] h0 (Q_cC5_2_1 Z b d kc kd c0 c1 h0 n0) 0 0 := by
  refine enter (plainFor_of_name pn_0) ?_
  intro p e s m below meth c s₁ hnm hret hlk D0
  rw [ef_cC5_2_1 m b d]
  refine g_iconst D0 1 (0 : Int32) d_jdk_52m21_0 rfl rfl ?_
  refine g_istore D0 3 #[.val (.ref b), .val (.int (0 : Int32)), .val (.ref d), .val (.int (0 : Int32)), .val (.int (2 : Int32)), .val (.int (0 : Int32)), .unset] d_jdk_52m21_1 rfl rfl ?_
  refine g_iload D0 5 d_jdk_52m21_3 rfl rfl ?_
  refine g_iload D0 7 d_jdk_52m21_5 rfl rfl ?_
  refine g_icmpN D0 10 d_jdk_52m21_7 (by decide) rfl ?_
  refine g_aloadN D0 11 d_jdk_52m21_10 rfl rfl rfl ?_
  refine g_iloadN D0 12 d_jdk_52m21_11 rfl rfl ?_
  refine g_caload D0 13 V_b (v := (.int c0)) ⟨by decide, by decide⟩ rfl d_jdk_52m21_12 rfl ?_
  refine g_istore D0 15 #[.val (.ref b), .val (.int (0 : Int32)), .val (.ref d), .val (.int (0 : Int32)), .val (.int (2 : Int32)), .val (.int (0 : Int32)), .val (.int c0)] d_jdk_52m21_13 rfl rfl ?_
  refine g_iload D0 17 d_jdk_52m21_15 rfl rfl ?_
  refine g_sipush D0 20 (255 : Int32) d_jdk_52m21_17 rfl rfl ?_
  refine g_icmpY D0 26 d_jdk_52m21_20 (flt q0).2.2.2 (by decide) (by decide) ?_
  refine g_aloadN D0 27 d_jdk_52m21_26 rfl rfl rfl ?_
  refine g_iloadN D0 28 d_jdk_52m21_27 rfl rfl ?_
  refine g_iload D0 30 d_jdk_52m21_28 rfl rfl ?_
  refine g_i2b D0 31 d_jdk_52m21_30 rfl ?_
  refine g_bastore D0 32 V_d ⟨by decide, by decide⟩ 0 (by decide) (Nat.le_of_ble_eq_true rfl) (fun _ _ => trivial) d_jdk_52m21_31 rfl ?_
  intro T130 h130 W130 V130 D130
  rw [nb_b c0] at V130
  replace V130 : Arv Z h130 d kd .byte (2 : Int32) [(.int (StrChars.lo8 c0)), (.int (0 : Int32))] (.int (0 : Int32)) := V130
  have N130 := Fr.snoc D130.st (Fr.nil n0) gd
  refine g_iinc D130 35 (1 : Int32) #[.val (.ref b), .val (.int ((0 : Int32) + (1 : Int32))), .val (.ref d), .val (.int (0 : Int32)), .val (.int (2 : Int32)), .val (.int (0 : Int32)), .val (.int c0)] d_jdk_52m21_32 rfl rfl rfl rfl ?_
  rw [show ((0 : Int32) + (1 : Int32)) = (1 : Int32) from by decide]
  refine g_iinc D130 38 (1 : Int32) #[.val (.ref b), .val (.int (1 : Int32)), .val (.ref d), .val (.int ((0 : Int32) + (1 : Int32))), .val (.int (2 : Int32)), .val (.int (0 : Int32)), .val (.int c0)] d_jdk_52m21_35 rfl rfl rfl rfl ?_
  rw [show ((0 : Int32) + (1 : Int32)) = (1 : Int32) from by decide]
  refine g_iinc D130 41 (1 : Int32) #[.val (.ref b), .val (.int (1 : Int32)), .val (.ref d), .val (.int (1 : Int32)), .val (.int (2 : Int32)), .val (.int ((0 : Int32) + (1 : Int32))), .val (.int c0)] d_jdk_52m21_38 rfl rfl rfl rfl ?_
  rw [show ((0 : Int32) + (1 : Int32)) = (1 : Int32) from by decide]
  refine g_goto D130 3 d_jdk_52m21_41 (by decide) (by decide) ?_
  refine g_iload D130 5 d_jdk_52m21_3 rfl rfl ?_
  refine g_iload D130 7 d_jdk_52m21_5 rfl rfl ?_
  refine g_icmpN D130 10 d_jdk_52m21_7 (by decide) rfl ?_
  refine g_aloadN D130 11 d_jdk_52m21_10 rfl rfl rfl ?_
  refine g_iloadN D130 12 d_jdk_52m21_11 rfl rfl ?_
  refine g_caload D130 13 (V_b.other W130 nbd) (v := (.int c1)) ⟨by decide, by decide⟩ rfl d_jdk_52m21_12 rfl ?_
  refine g_istore D130 15 #[.val (.ref b), .val (.int (1 : Int32)), .val (.ref d), .val (.int (1 : Int32)), .val (.int (2 : Int32)), .val (.int (1 : Int32)), .val (.int c1)] d_jdk_52m21_13 rfl rfl ?_
  refine g_iload D130 17 d_jdk_52m21_15 rfl rfl ?_
  refine g_sipush D130 20 (255 : Int32) d_jdk_52m21_17 rfl rfl ?_
  refine g_icmpN D130 23 d_jdk_52m21_20 (tlt q1).2.2.2 rfl ?_
  refine g_iload D130 25 d_jdk_52m21_23 rfl rfl ?_
  exact r_I D130 hret hlk d_jdk_52m21_25 ⟨rfl, N130, ((Keep.refl _ [d]).wr W130 (Or.inl (List.mem_of_getElem? (i := 0) rfl))), V130⟩ (by decide) (by decide)
def Q_cC5_2_2 (Z : State) (b d : Addr) (kc kd : ClassId) (c0 c1 : Int32) (h0 : Heap) (n0 : Nat) : Option Value → Heap → List Loc → Prop := (fun v h L => v = some (.int (2 : Int32)) ∧ Fr n0 L ∧ Keep h0 h [d] ∧ Arv Z h d kd .byte (2 : Int32) [(.int (StrChars.lo8 c0)), (.int (StrChars.lo8 c1))] (.int (0 : Int32)))
set_option maxRecDepth 65536 in
set_option maxHeartbeats 40000000 in
theorem cC5_2_2 (l : Launch) (Z : State) (a0 : Array Value) (hw : ∀ d ∈ tables_1, d.before a0 Z = true) (ws : List Jvm.Cond) (b d : Addr) (kc kd : ClassId) (c0 c1 : Int32) (h0 : Heap) (n0 : Nat) (Z0 : n0 ≤ h0.size) (V_b : Arv Z h0 b kc .char (2 : Int32) [(.int c0), (.int c1)] (.int (0 : Int32))) (V_d : Arv Z h0 d kd .byte (2 : Int32) [(.int (0 : Int32)), (.int (0 : Int32))] (.int (0 : Int32))) (gd : n0 ≤ d) (nbd : b ≠ d) (q0 : ¬ (255 : Int32) < c0) (q1 : ¬ (255 : Int32) < c1) :
    Con l (⟨"java/lang/StringUTF16", "compress", "([CI[BII)I"⟩ : MethodName) jdk_52_method_21_code 7 (some .int) ws ({ frames := 0, cells := 0, slots := 0, locals := 0 } : Room) Z #[(.ref b), (.int (0 : Int32)), (.ref d), (.int (0 : Int32)), (.int (2 : Int32))] h0 (Q_cC5_2_2 Z b d kc kd c0 c1 h0 n0) 0 0 := by
  refine enter (plainFor_of_name pn_0) ?_
  intro p e s m below meth c s₁ hnm hret hlk D0
  rw [ef_cC5_2_2 m b d]
  refine g_iconst D0 1 (0 : Int32) d_jdk_52m21_0 rfl rfl ?_
  refine g_istore D0 3 #[.val (.ref b), .val (.int (0 : Int32)), .val (.ref d), .val (.int (0 : Int32)), .val (.int (2 : Int32)), .val (.int (0 : Int32)), .unset] d_jdk_52m21_1 rfl rfl ?_
  refine g_iload D0 5 d_jdk_52m21_3 rfl rfl ?_
  refine g_iload D0 7 d_jdk_52m21_5 rfl rfl ?_
  refine g_icmpN D0 10 d_jdk_52m21_7 (by decide) rfl ?_
  refine g_aloadN D0 11 d_jdk_52m21_10 rfl rfl rfl ?_
  refine g_iloadN D0 12 d_jdk_52m21_11 rfl rfl ?_
  refine g_caload D0 13 V_b (v := (.int c0)) ⟨by decide, by decide⟩ rfl d_jdk_52m21_12 rfl ?_
  refine g_istore D0 15 #[.val (.ref b), .val (.int (0 : Int32)), .val (.ref d), .val (.int (0 : Int32)), .val (.int (2 : Int32)), .val (.int (0 : Int32)), .val (.int c0)] d_jdk_52m21_13 rfl rfl ?_
  refine g_iload D0 17 d_jdk_52m21_15 rfl rfl ?_
  refine g_sipush D0 20 (255 : Int32) d_jdk_52m21_17 rfl rfl ?_
  refine g_icmpY D0 26 d_jdk_52m21_20 (flt q0).2.2.2 (by decide) (by decide) ?_
  refine g_aloadN D0 27 d_jdk_52m21_26 rfl rfl rfl ?_
  refine g_iloadN D0 28 d_jdk_52m21_27 rfl rfl ?_
  refine g_iload D0 30 d_jdk_52m21_28 rfl rfl ?_
  refine g_i2b D0 31 d_jdk_52m21_30 rfl ?_
  refine g_bastore D0 32 V_d ⟨by decide, by decide⟩ 0 (by decide) (Nat.le_of_ble_eq_true rfl) (fun _ _ => trivial) d_jdk_52m21_31 rfl ?_
  intro T131 h131 W131 V131 D131
  rw [nb_b c0] at V131
  replace V131 : Arv Z h131 d kd .byte (2 : Int32) [(.int (StrChars.lo8 c0)), (.int (0 : Int32))] (.int (0 : Int32)) := V131
  have N131 := Fr.snoc D131.st (Fr.nil n0) gd
  refine g_iinc D131 35 (1 : Int32) #[.val (.ref b), .val (.int ((0 : Int32) + (1 : Int32))), .val (.ref d), .val (.int (0 : Int32)), .val (.int (2 : Int32)), .val (.int (0 : Int32)), .val (.int c0)] d_jdk_52m21_32 rfl rfl rfl rfl ?_
  rw [show ((0 : Int32) + (1 : Int32)) = (1 : Int32) from by decide]
  refine g_iinc D131 38 (1 : Int32) #[.val (.ref b), .val (.int (1 : Int32)), .val (.ref d), .val (.int ((0 : Int32) + (1 : Int32))), .val (.int (2 : Int32)), .val (.int (0 : Int32)), .val (.int c0)] d_jdk_52m21_35 rfl rfl rfl rfl ?_
  rw [show ((0 : Int32) + (1 : Int32)) = (1 : Int32) from by decide]
  refine g_iinc D131 41 (1 : Int32) #[.val (.ref b), .val (.int (1 : Int32)), .val (.ref d), .val (.int (1 : Int32)), .val (.int (2 : Int32)), .val (.int ((0 : Int32) + (1 : Int32))), .val (.int c0)] d_jdk_52m21_38 rfl rfl rfl rfl ?_
  rw [show ((0 : Int32) + (1 : Int32)) = (1 : Int32) from by decide]
  refine g_goto D131 3 d_jdk_52m21_41 (by decide) (by decide) ?_
  refine g_iload D131 5 d_jdk_52m21_3 rfl rfl ?_
  refine g_iload D131 7 d_jdk_52m21_5 rfl rfl ?_
  refine g_icmpN D131 10 d_jdk_52m21_7 (by decide) rfl ?_
  refine g_aloadN D131 11 d_jdk_52m21_10 rfl rfl rfl ?_
  refine g_iloadN D131 12 d_jdk_52m21_11 rfl rfl ?_
  refine g_caload D131 13 (V_b.other W131 nbd) (v := (.int c1)) ⟨by decide, by decide⟩ rfl d_jdk_52m21_12 rfl ?_
  refine g_istore D131 15 #[.val (.ref b), .val (.int (1 : Int32)), .val (.ref d), .val (.int (1 : Int32)), .val (.int (2 : Int32)), .val (.int (1 : Int32)), .val (.int c1)] d_jdk_52m21_13 rfl rfl ?_
  refine g_iload D131 17 d_jdk_52m21_15 rfl rfl ?_
  refine g_sipush D131 20 (255 : Int32) d_jdk_52m21_17 rfl rfl ?_
  refine g_icmpY D131 26 d_jdk_52m21_20 (flt q1).2.2.2 (by decide) (by decide) ?_
  refine g_aloadN D131 27 d_jdk_52m21_26 rfl rfl rfl ?_
  refine g_iloadN D131 28 d_jdk_52m21_27 rfl rfl ?_
  refine g_iload D131 30 d_jdk_52m21_28 rfl rfl ?_
  refine g_i2b D131 31 d_jdk_52m21_30 rfl ?_
  refine g_bastore D131 32 V131 ⟨by decide, by decide⟩ 1 (by decide) (Nat.le_of_ble_eq_true rfl) (fun _ _ => trivial) d_jdk_52m21_31 rfl ?_
  intro T132 h132 W132 V132 D132
  rw [nb_b c1] at V132
  replace V132 : Arv Z h132 d kd .byte (2 : Int32) [(.int (StrChars.lo8 c0)), (.int (StrChars.lo8 c1))] (.int (0 : Int32)) := V132
  have N132 := Fr.snoc D132.st N131 gd
  refine g_iinc D132 35 (1 : Int32) #[.val (.ref b), .val (.int ((1 : Int32) + (1 : Int32))), .val (.ref d), .val (.int (1 : Int32)), .val (.int (2 : Int32)), .val (.int (1 : Int32)), .val (.int c1)] d_jdk_52m21_32 rfl rfl rfl rfl ?_
  rw [show ((1 : Int32) + (1 : Int32)) = (2 : Int32) from by decide]
  refine g_iinc D132 38 (1 : Int32) #[.val (.ref b), .val (.int (2 : Int32)), .val (.ref d), .val (.int ((1 : Int32) + (1 : Int32))), .val (.int (2 : Int32)), .val (.int (1 : Int32)), .val (.int c1)] d_jdk_52m21_35 rfl rfl rfl rfl ?_
  rw [show ((1 : Int32) + (1 : Int32)) = (2 : Int32) from by decide]
  refine g_iinc D132 41 (1 : Int32) #[.val (.ref b), .val (.int (2 : Int32)), .val (.ref d), .val (.int (2 : Int32)), .val (.int (2 : Int32)), .val (.int ((1 : Int32) + (1 : Int32))), .val (.int c1)] d_jdk_52m21_38 rfl rfl rfl rfl ?_
  rw [show ((1 : Int32) + (1 : Int32)) = (2 : Int32) from by decide]
  refine g_goto D132 3 d_jdk_52m21_41 (by decide) (by decide) ?_
  refine g_iload D132 5 d_jdk_52m21_3 rfl rfl ?_
  refine g_iload D132 7 d_jdk_52m21_5 rfl rfl ?_
  refine g_icmpY D132 44 d_jdk_52m21_7 (by decide) (by decide) (by decide) ?_
  refine g_iload D132 46 d_jdk_52m21_44 rfl rfl ?_
  exact r_I D132 hret hlk d_jdk_52m21_46 ⟨rfl, N132, (((Keep.refl _ [d]).wr W131 (Or.inl (List.mem_of_getElem? (i := 0) rfl))).wr W132 (Or.inl (List.mem_of_getElem? (i := 0) rfl))), V132⟩ (by decide) (by decide)
def Q_cC3_2 (Z : State) (b : Addr) (kc : ClassId) (c0 c1 : Int32) (h0 : Heap) (n0 : Nat) : Option Value → Heap → List Loc → Prop := (fun v h L => ∃ t k cd N2 vs, v = some (.ref t) ∧ h0.size ≤ t ∧ Fr n0 L ∧ Ext h0 h ∧ Arv Z h t k .byte N2 vs (.int (0 : Int32)) ∧ StrChars.Road.CodA [c0, c1] cd N2 vs)
set_option maxRecDepth 65536 in
set_option maxHeartbeats 40000000 in
theorem cC3_2 (l : Launch) (Z : State) (a0 : Array Value) (hw : ∀ d ∈ tables_1, d.before a0 Z = true) (ws : List Jvm.Cond) (b : Addr) (kc : ClassId) (c0 c1 : Int32) (h0 : Heap) (n0 : Nat) (Z0 : n0 ≤ h0.size) (OLD : Old Z n0 h0) (SA : Sta Z Z.heap "java/lang/StringUTF16" "$assertionsDisabled" "Z" (.int (1 : Int32))) (SH : Sta Z Z.heap "java/lang/StringUTF16" "HI_BYTE_SHIFT" "I" (.int (0 : Int32))) (SL : Sta Z Z.heap "java/lang/StringUTF16" "LO_BYTE_SHIFT" "I" (.int (8 : Int32))) (V_b : Arv Z h0 b kc .char (2 : Int32) [(.int c0), (.int c1)] (.int (0 : Int32))) (H0 : C16 c0) (H1 : C16 c1) :
    Con l (⟨"java/lang/StringUTF16", "compress", "([CII)[B"⟩ : MethodName) jdk_52_method_16_code 6 (some (.array .byte)) ws ({ frames := 3, cells := 2, slots := 6, locals := 40 } : Room) Z #[(.ref b), (.int (0 : Int32)), (.int (2 : Int32))] h0 (Q_cC3_2 Z b kc c0 c1 h0 n0) 2 6 := by
  refine enter (plainFor_of_name pn_0) ?_
  intro p e s m below meth c s₁ hnm hret hlk D0
  rw [ef_cC3_2 m b]
  refine g_iloadN D0 1 d_jdk_52m16_0 rfl rfl ?_
  refine g_newP D0 3 (aty := .byte) (hw _ w_16) d_jdk_52m16_1 (by decide) (cap := 2) (by decide) (by decide) (by decide) (by decide) (fun _ _ => trivial) rfl ?_
  intro T133 h133 a133 k133 g133 E133 V133 D133
  have V133' : Arv Z h133 a133 k133 .byte (2 : Int32) [(.int (0 : Int32)), (.int (0 : Int32))] (.int (0 : Int32)) := V133.pad (pad_rep [] (.int (0 : Int32)) 2)
  refine g_astoreN D133 4 #[.val (.ref b), .val (.int (0 : Int32)), .val (.int (2 : Int32)), .val (.ref a133), .unset, .unset] d_jdk_52m16_3 rfl rfl rfl ?_
  refine g_aloadN D133 5 d_jdk_52m16_4 rfl rfl rfl ?_
  refine g_iloadN D133 6 d_jdk_52m16_5 rfl rfl ?_
  refine g_aloadN D133 7 d_jdk_52m16_6 rfl rfl rfl ?_
  refine g_iconst D133 8 (0 : Int32) d_jdk_52m16_7 rfl rfl ?_
  refine g_iloadN D133 9 d_jdk_52m16_8 rfl rfl ?_
  by_cases q0 : (255 : Int32) < c0
  · refine g_callS D133 12 (hw _ w_52) (hw _ w_53) (hw _ w_50) (hw _ w_54) (by decide) ((cC5_2_0 l Z a0 hw [] b a133 kc k133 c0 c1 h133 n0 (Nat.le_trans Z0 E133.1) (V_b.ext E133) V133' (Nat.le_trans Z0 (Nat.le_of_eq g133.symm)) (Nat.ne_of_lt (Nat.lt_of_lt_of_le V_b.lt (Nat.le_of_eq g133.symm))) q0).back D133 0 (hw _ w_54) (hw _ w_50) (by decide) (by decide)) rfl [(.ref b), (.int (0 : Int32)), (.ref a133), (.int (0 : Int32)), (.int (2 : Int32))] rfl (lenOf pd_3 rfl) rfl (Nat.le_of_eq rfl) (by decide) (by decide) (fun _ _ _ _ => trivial) d_jdk_52m16_9 rfl ?_
    intro v134 T134 h134 L134 q134 D134
    obtain ⟨rfl, N134, K134, V134⟩ := q134
    have NF134 := Fr.app (Fr.nil n0) N134
    show Go p e below _ (T134.setTop (mkF m 12 #[.val (.ref b), .val (.int (0 : Int32)), .val (.int (2 : Int32)), .val (.ref a133), .unset, .unset] [(.int (0 : Int32))]))
    refine g_istore D134 14 #[.val (.ref b), .val (.int (0 : Int32)), .val (.int (2 : Int32)), .val (.ref a133), .val (.int (0 : Int32)), .unset] d_jdk_52m16_12 rfl rfl ?_
    refine g_iload D134 16 d_jdk_52m16_14 rfl rfl ?_
    refine g_iloadN D134 17 d_jdk_52m16_16 rfl rfl ?_
    refine g_icmpN D134 20 d_jdk_52m16_17 (by decide) rfl ?_
    refine g_aloadN D134 21 d_jdk_52m16_20 rfl rfl rfl ?_
    refine g_iloadN D134 22 d_jdk_52m16_21 rfl rfl ?_
    refine g_iloadN D134 23 d_jdk_52m16_22 rfl rfl ?_
    refine g_callS D134 26 (hw _ w_85) (hw _ w_86) (hw _ w_50) (hw _ w_87) (by decide) ((cToB_2 l Z a0 hw [] b kc c0 c1 h134 n0 (Nat.le_trans (Nat.le_trans Z0 E133.1) K134.1) ((OLD.ext E133).keep K134 (allS (Nat.le_trans Z0 (Nat.le_of_eq g133.symm)) all0)) SA SH SL ((V_b.ext E133).keep K134 (ninS (Nat.ne_of_lt (Nat.lt_of_lt_of_le V_b.lt (Nat.le_of_eq g133.symm))) nin0))).back D134 0 (hw _ w_87) (hw _ w_50) (by decide) (by decide)) rfl [(.ref b), (.int (0 : Int32)), (.int (2 : Int32))] rfl (lenOf pd_4 rfl) rfl (Nat.le_of_eq rfl) (by decide) (by decide) (fun _ _ _ _ => trivial) d_jdk_52m16_23 rfl ?_
    intro v135 T135 h135 L135 q135 D135
    obtain ⟨t135, k135, rfl, g135, N135, E135, V135⟩ := q135
    have NF135 := Fr.app NF134 N135
    show Go p e below _ (T135.setTop (mkF m 26 #[.val (.ref b), .val (.int (0 : Int32)), .val (.int (2 : Int32)), .val (.ref a133), .val (.int (0 : Int32)), .unset] [(.ref t135)]))
    refine g_astore D135 28 #[.val (.ref b), .val (.int (0 : Int32)), .val (.int (2 : Int32)), .val (.ref a133), .val (.int (0 : Int32)), .val (.ref t135)] d_jdk_52m16_26 rfl rfl rfl ?_
    refine g_aload D135 30 d_jdk_52m16_28 rfl rfl rfl ?_
    refine g_iload D135 32 d_jdk_52m16_30 rfl rfl ?_
    refine g_callSp D135 35 (hw _ w_101) (hw _ w_102) (hw _ w_50) (hw _ w_103) (by decide) ((cGet_2_0 l Z a0 hw [] t135 k135 c0 c1 h135 n0 (Nat.le_trans (Nat.le_trans (Nat.le_trans Z0 E133.1) K134.1) E135.1) (((OLD.ext E133).keep K134 (allS (Nat.le_trans Z0 (Nat.le_of_eq g133.symm)) all0)).ext E135) SA SH SL V135 H0).back D135 0 (hw _ w_103) (hw _ w_50) (by decide) (by decide)) rfl [(.ref t135), (.int (0 : Int32))] rfl (lenOf pd_5 rfl) rfl (Nat.le_of_eq rfl) (by decide) (by decide) d_jdk_52m16_32 rfl ?_
    intro v136 T136 q136 D136
    subst q136
    show Go p e below _ (T136.setTop (mkF m 35 #[.val (.ref b), .val (.int (0 : Int32)), .val (.int (2 : Int32)), .val (.ref a133), .val (.int (0 : Int32)), .val (.ref t135)] [(.int c0)]))
    refine g_sipush D136 38 (255 : Int32) d_jdk_52m16_35 rfl rfl ?_
    refine g_icmpY D136 54 d_jdk_52m16_38 (tlt q0).2.2.1 (by decide) (by decide) ?_
    refine g_aload D136 56 d_jdk_52m16_54 rfl rfl rfl ?_
    exact r_A D136 hret rfl rfl hlk d_jdk_52m16_56 ⟨t135, k135, 1, _, _, rfl, (Nat.le_trans (Nat.le_trans (Nat.le_trans (Nat.le_refl _) E133.1) K134.1) g135), NF135, Keep.toExt ((((Keep.refl _ []).ext E133).trans K134 (allS (Or.inr (Nat.le_trans (Nat.le_refl _) (Nat.le_of_eq g133.symm))) all0)).ext E135), V135, Or.inr ⟨rfl, rfl, rfl, c0, List.mem_of_getElem? (i := 0) rfl, q0⟩⟩ (by decide) (by decide)
  · by_cases q1 : (255 : Int32) < c1
    · refine g_callS D133 12 (hw _ w_52) (hw _ w_53) (hw _ w_50) (hw _ w_54) (by decide) ((cC5_2_1 l Z a0 hw [] b a133 kc k133 c0 c1 h133 n0 (Nat.le_trans Z0 E133.1) (V_b.ext E133) V133' (Nat.le_trans Z0 (Nat.le_of_eq g133.symm)) (Nat.ne_of_lt (Nat.lt_of_lt_of_le V_b.lt (Nat.le_of_eq g133.symm))) q0 q1).back D133 0 (hw _ w_54) (hw _ w_50) (by decide) (by decide)) rfl [(.ref b), (.int (0 : Int32)), (.ref a133), (.int (0 : Int32)), (.int (2 : Int32))] rfl (lenOf pd_3 rfl) rfl (Nat.le_of_eq rfl) (by decide) (by decide) (fun _ _ _ _ => trivial) d_jdk_52m16_9 rfl ?_
      intro v137 T137 h137 L137 q137 D137
      obtain ⟨rfl, N137, K137, V137⟩ := q137
      have NF137 := Fr.app (Fr.nil n0) N137
      show Go p e below _ (T137.setTop (mkF m 12 #[.val (.ref b), .val (.int (0 : Int32)), .val (.int (2 : Int32)), .val (.ref a133), .unset, .unset] [(.int (1 : Int32))]))
      refine g_istore D137 14 #[.val (.ref b), .val (.int (0 : Int32)), .val (.int (2 : Int32)), .val (.ref a133), .val (.int (1 : Int32)), .unset] d_jdk_52m16_12 rfl rfl ?_
      refine g_iload D137 16 d_jdk_52m16_14 rfl rfl ?_
      refine g_iloadN D137 17 d_jdk_52m16_16 rfl rfl ?_
      refine g_icmpN D137 20 d_jdk_52m16_17 (by decide) rfl ?_
      refine g_aloadN D137 21 d_jdk_52m16_20 rfl rfl rfl ?_
      refine g_iloadN D137 22 d_jdk_52m16_21 rfl rfl ?_
      refine g_iloadN D137 23 d_jdk_52m16_22 rfl rfl ?_
      refine g_callS D137 26 (hw _ w_85) (hw _ w_86) (hw _ w_50) (hw _ w_87) (by decide) ((cToB_2 l Z a0 hw [] b kc c0 c1 h137 n0 (Nat.le_trans (Nat.le_trans Z0 E133.1) K137.1) ((OLD.ext E133).keep K137 (allS (Nat.le_trans Z0 (Nat.le_of_eq g133.symm)) all0)) SA SH SL ((V_b.ext E133).keep K137 (ninS (Nat.ne_of_lt (Nat.lt_of_lt_of_le V_b.lt (Nat.le_of_eq g133.symm))) nin0))).back D137 0 (hw _ w_87) (hw _ w_50) (by decide) (by decide)) rfl [(.ref b), (.int (0 : Int32)), (.int (2 : Int32))] rfl (lenOf pd_4 rfl) rfl (Nat.le_of_eq rfl) (by decide) (by decide) (fun _ _ _ _ => trivial) d_jdk_52m16_23 rfl ?_
      intro v138 T138 h138 L138 q138 D138
      obtain ⟨t138, k138, rfl, g138, N138, E138, V138⟩ := q138
      have NF138 := Fr.app NF137 N138
      show Go p e below _ (T138.setTop (mkF m 26 #[.val (.ref b), .val (.int (0 : Int32)), .val (.int (2 : Int32)), .val (.ref a133), .val (.int (1 : Int32)), .unset] [(.ref t138)]))
      refine g_astore D138 28 #[.val (.ref b), .val (.int (0 : Int32)), .val (.int (2 : Int32)), .val (.ref a133), .val (.int (1 : Int32)), .val (.ref t138)] d_jdk_52m16_26 rfl rfl rfl ?_
      refine g_aload D138 30 d_jdk_52m16_28 rfl rfl rfl ?_
      refine g_iload D138 32 d_jdk_52m16_30 rfl rfl ?_
      refine g_callSp D138 35 (hw _ w_101) (hw _ w_102) (hw _ w_50) (hw _ w_103) (by decide) ((cGet_2_1 l Z a0 hw [] t138 k138 c0 c1 h138 n0 (Nat.le_trans (Nat.le_trans (Nat.le_trans Z0 E133.1) K137.1) E138.1) (((OLD.ext E133).keep K137 (allS (Nat.le_trans Z0 (Nat.le_of_eq g133.symm)) all0)).ext E138) SA SH SL V138 H1).back D138 0 (hw _ w_103) (hw _ w_50) (by decide) (by decide)) rfl [(.ref t138), (.int (1 : Int32))] rfl (lenOf pd_5 rfl) rfl (Nat.le_of_eq rfl) (by decide) (by decide) d_jdk_52m16_32 rfl ?_
      intro v139 T139 q139 D139
      subst q139
      show Go p e below _ (T139.setTop (mkF m 35 #[.val (.ref b), .val (.int (0 : Int32)), .val (.int (2 : Int32)), .val (.ref a133), .val (.int (1 : Int32)), .val (.ref t138)] [(.int c1)]))
      refine g_sipush D139 38 (255 : Int32) d_jdk_52m16_35 rfl rfl ?_
      refine g_icmpY D139 54 d_jdk_52m16_38 (tlt q1).2.2.1 (by decide) (by decide) ?_
      refine g_aload D139 56 d_jdk_52m16_54 rfl rfl rfl ?_
      exact r_A D139 hret rfl rfl hlk d_jdk_52m16_56 ⟨t138, k138, 1, _, _, rfl, (Nat.le_trans (Nat.le_trans (Nat.le_trans (Nat.le_refl _) E133.1) K137.1) g138), NF138, Keep.toExt ((((Keep.refl _ []).ext E133).trans K137 (allS (Or.inr (Nat.le_trans (Nat.le_refl _) (Nat.le_of_eq g133.symm))) all0)).ext E138), V138, Or.inr ⟨rfl, rfl, rfl, c1, List.mem_of_getElem? (i := 1) rfl, q1⟩⟩ (by decide) (by decide)
    · refine g_callS D133 12 (hw _ w_52) (hw _ w_53) (hw _ w_50) (hw _ w_54) (by decide) ((cC5_2_2 l Z a0 hw [] b a133 kc k133 c0 c1 h133 n0 (Nat.le_trans Z0 E133.1) (V_b.ext E133) V133' (Nat.le_trans Z0 (Nat.le_of_eq g133.symm)) (Nat.ne_of_lt (Nat.lt_of_lt_of_le V_b.lt (Nat.le_of_eq g133.symm))) q0 q1).back D133 0 (hw _ w_54) (hw _ w_50) (by decide) (by decide)) rfl [(.ref b), (.int (0 : Int32)), (.ref a133), (.int (0 : Int32)), (.int (2 : Int32))] rfl (lenOf pd_3 rfl) rfl (Nat.le_of_eq rfl) (by decide) (by decide) (fun _ _ _ _ => trivial) d_jdk_52m16_9 rfl ?_
      intro v140 T140 h140 L140 q140 D140
      obtain ⟨rfl, N140, K140, V140⟩ := q140
      have NF140 := Fr.app (Fr.nil n0) N140
      show Go p e below _ (T140.setTop (mkF m 12 #[.val (.ref b), .val (.int (0 : Int32)), .val (.int (2 : Int32)), .val (.ref a133), .unset, .unset] [(.int (2 : Int32))]))
      refine g_istore D140 14 #[.val (.ref b), .val (.int (0 : Int32)), .val (.int (2 : Int32)), .val (.ref a133), .val (.int (2 : Int32)), .unset] d_jdk_52m16_12 rfl rfl ?_
      refine g_iload D140 16 d_jdk_52m16_14 rfl rfl ?_
      refine g_iloadN D140 17 d_jdk_52m16_16 rfl rfl ?_
      refine g_icmpY D140 57 d_jdk_52m16_17 (by decide) (by decide) (by decide) ?_
      refine g_aloadN D140 58 d_jdk_52m16_57 rfl rfl rfl ?_
      exact r_A D140 hret rfl rfl hlk d_jdk_52m16_58 ⟨a133, k133, 0, _, _, rfl, (Nat.le_trans (Nat.le_refl _) (Nat.le_of_eq g133.symm)), NF140, Keep.toExt (((Keep.refl _ []).ext E133).trans K140 (allS (Or.inr (Nat.le_trans (Nat.le_refl _) (Nat.le_of_eq g133.symm))) all0)), V140, Or.inl ⟨rfl, rfl, rfl, (u8_cons q0 (u8_cons q1 u8_nil))⟩⟩ (by decide) (by decide)
set_option maxRecDepth 65536 in
set_option maxHeartbeats 40000000 in
theorem cCod_2_0 (l : Launch) (Z : State) (a0 : Array Value) (hw : ∀ d ∈ tables_1, d.before a0 Z = true) (ws : List Jvm.Cond) (t : Addr) (kb : ClassId) (vs : List Value) (h0 : Heap) (n0 : Nat) (Z0 : n0 ≤ h0.size) (V_t : Arv Z h0 t kb .byte (2 : Int32) vs (.int (0 : Int32))) :
    Con l (⟨"java/lang/StringUTF16", "coderFromArrayLen", "([BI)B"⟩ : MethodName) jdk_52_method_15_code 2 (some .byte) ws ({ frames := 0, cells := 0, slots := 0, locals := 0 } : Room) Z #[(.ref t), (.int (2 : Int32))] h0 (fun v h L => v = some (.int (0 : Int32)) ∧ L = [] ∧ h = h0) 0 0 := by
  refine enter (plainFor_of_name pn_0) ?_
  intro p e s m below meth c s₁ hnm hret hlk D0
  rw [ef_cCod_2_0 m t]
  refine g_iloadN D0 1 d_jdk_52m15_0 rfl rfl ?_
  refine g_aloadN D0 2 d_jdk_52m15_1 rfl rfl rfl ?_
  refine g_alen D0 3 V_t d_jdk_52m15_2 rfl ?_
  refine g_isub D0 4 d_jdk_52m15_3 rfl ?_
  rw [show ((2 : Int32) - (2 : Int32)) = (0 : Int32) from by decide]
  refine g_bipush D0 6 (31 : Int32) d_jdk_52m15_4 rfl rfl ?_
  refine g_iushr D0 7 d_jdk_52m15_6 rfl ?_
  rw [show (XT.ushr (0 : Int32) (31 : Int32)) = (0 : Int32) from by decide]
  refine g_i2b D0 8 d_jdk_52m15_7 rfl ?_
  rw [show ((0 : Int32).toInt8.toInt32) = (0 : Int32) from by decide]
  exact r_N D0 hret (by simp) hlk d_jdk_52m15_8 ⟨(by decide : some (Value.int (nar .byte (0 : Int32))) = some (.int (0 : Int32))), rfl, rfl⟩ (by decide) (by decide)
set_option maxRecDepth 65536 in
set_option maxHeartbeats 40000000 in
theorem cCod_2_1 (l : Launch) (Z : State) (a0 : Array Value) (hw : ∀ d ∈ tables_1, d.before a0 Z = true) (ws : List Jvm.Cond) (t : Addr) (kb : ClassId) (vs : List Value) (h0 : Heap) (n0 : Nat) (Z0 : n0 ≤ h0.size) (V_t : Arv Z h0 t kb .byte (4 : Int32) vs (.int (0 : Int32))) :
    Con l (⟨"java/lang/StringUTF16", "coderFromArrayLen", "([BI)B"⟩ : MethodName) jdk_52_method_15_code 2 (some .byte) ws ({ frames := 0, cells := 0, slots := 0, locals := 0 } : Room) Z #[(.ref t), (.int (2 : Int32))] h0 (fun v h L => v = some (.int (1 : Int32)) ∧ L = [] ∧ h = h0) 0 0 := by
  refine enter (plainFor_of_name pn_0) ?_
  intro p e s m below meth c s₁ hnm hret hlk D0
  rw [ef_cCod_2_1 m t]
  refine g_iloadN D0 1 d_jdk_52m15_0 rfl rfl ?_
  refine g_aloadN D0 2 d_jdk_52m15_1 rfl rfl rfl ?_
  refine g_alen D0 3 V_t d_jdk_52m15_2 rfl ?_
  refine g_isub D0 4 d_jdk_52m15_3 rfl ?_
  rw [show ((2 : Int32) - (4 : Int32)) = (-2 : Int32) from by decide]
  refine g_bipush D0 6 (31 : Int32) d_jdk_52m15_4 rfl rfl ?_
  refine g_iushr D0 7 d_jdk_52m15_6 rfl ?_
  rw [show (XT.ushr (-2 : Int32) (31 : Int32)) = (1 : Int32) from by decide]
  refine g_i2b D0 8 d_jdk_52m15_7 rfl ?_
  rw [show ((1 : Int32).toInt8.toInt32) = (1 : Int32) from by decide]
  exact r_N D0 hret (by simp) hlk d_jdk_52m15_8 ⟨(by decide : some (Value.int (nar .byte (1 : Int32))) = some (.int (1 : Int32))), rfl, rfl⟩ (by decide) (by decide)
def Q_cN4_2 (Z : State) (x b : Addr) (kc : ClassId) (zc : Int32) (c0 c1 : Int32) (h0 : Heap) (n0 : Nat) : Option Value → Heap → List Loc → Prop := (fun v h L => v = none ∧ Fr n0 L ∧ Keep h0 h [x] ∧ TS Z h x [c0, c1])
set_option maxRecDepth 65536 in
set_option maxHeartbeats 40000000 in
theorem cN4_2 (l : Launch) (Z : State) (a0 : Array Value) (hw : ∀ d ∈ tables_1, d.before a0 Z = true) (ws : List Jvm.Cond) (x b : Addr) (kc : ClassId) (zc : Int32) (c0 c1 : Int32) (h0 : Heap) (n0 : Nat) (Z0 : n0 ≤ h0.size) (OLD : Old Z n0 h0) (SA : Sta Z Z.heap "java/lang/StringUTF16" "$assertionsDisabled" "Z" (.int (1 : Int32))) (SH : Sta Z Z.heap "java/lang/StringUTF16" "HI_BYTE_SHIFT" "I" (.int (0 : Int32))) (SL : Sta Z Z.heap "java/lang/StringUTF16" "LO_BYTE_SHIFT" "I" (.int (8 : Int32))) (CS : Sta Z Z.heap "java/lang/String" "COMPACT_STRINGS" "Z" (.int zc)) (hzc : ¬ zc = 0) (E_x : Exa Z h0 x "java/lang/String") (F_v : Fld Z h0 x "java/lang/String" "value" "[B" .null) (F_c : Fld Z h0 x "java/lang/String" "coder" "B" (.int (0 : Int32))) (gx : n0 ≤ x) (V_b : Arv Z h0 b kc .char (2 : Int32) [(.int c0), (.int c1)] (.int (0 : Int32))) (H0 : C16 c0) (H1 : C16 c1) :
    Con l (⟨"java/lang/String", "<init>", "([CIILjava/lang/Void;)V"⟩ : MethodName) jdk_42_method_149_code 6 none ws ({ frames := 4, cells := 2, slots := 6, locals := 57 } : Room) Z #[(.ref x), (.ref b), (.int (0 : Int32)), (.int (2 : Int32)), .null] h0 (Q_cN4_2 Z x b kc zc c0 c1 h0 n0) 2 6 := by
  refine enter (plainFor_of_name pn_1) ?_
  intro p e s m below meth c s₁ hnm hret hlk D0
  rw [ef_cN4_2 m x b]
  refine g_aloadN D0 1 d_jdk_42m149_0 rfl rfl rfl ?_
  refine g_initO D0 4 (hw _ w_12) (hw _ w_13) (hw _ w_14) rfl d_jdk_42m149_1 (by decide) (W := 0) (Nat.le_of_eq rfl) (by decide) rfl ?_
  intro T141 D141
  refine g_iloadN D141 5 d_jdk_42m149_4 rfl rfl ?_
  refine g_ifY D141 27 d_jdk_42m149_5 (by decide) (by decide) (by decide) ?_
  refine g_getS D141 30 (hw _ w_45) Via.refl (CS.ext OLD.2) d_jdk_42m149_27 rfl ?_
  intro T142 D142
  refine g_ifN D142 33 d_jdk_42m149_30 (feq hzc).1 rfl ?_
  refine g_aloadN D142 34 d_jdk_42m149_33 rfl rfl rfl ?_
  refine g_iloadN D142 35 d_jdk_42m149_34 rfl rfl ?_
  refine g_iloadN D142 36 d_jdk_42m149_35 rfl rfl ?_
  refine g_callS D142 39 (hw _ w_48) (hw _ w_49) (hw _ w_50) (hw _ w_51) (by decide) ((cC3_2 l Z a0 hw [] b kc c0 c1 h0 n0 Z0 OLD SA SH SL V_b H0 H1).back D142 0 (hw _ w_51) (hw _ w_50) (by decide) (by decide)) rfl [(.ref b), (.int (0 : Int32)), (.int (2 : Int32))] rfl (lenOf pd_4 rfl) rfl (Nat.le_of_eq rfl) (by decide) (by decide) (fun _ _ _ _ => trivial) d_jdk_42m149_36 rfl ?_
  intro v143 T143 h143 L143 q143 D143
  obtain ⟨t143, k143, cd143, N2143, vs143, rfl, g143, N143, E143, V143, hc143⟩ := q143
  have NF143 := Fr.app (Fr.nil n0) N143
  show Go p e below _ (T143.setTop (mkF m 39 #[.val (.ref x), .val (.ref b), .val (.int (0 : Int32)), .val (.int (2 : Int32)), .val .null, .unset] [(.ref t143)]))
  refine g_astore D143 41 #[.val (.ref x), .val (.ref b), .val (.int (0 : Int32)), .val (.int (2 : Int32)), .val .null, .val (.ref t143)] d_jdk_42m149_39 rfl rfl rfl ?_
  refine g_aloadN D143 42 d_jdk_42m149_41 rfl rfl rfl ?_
  refine g_aload D143 44 d_jdk_42m149_42 rfl rfl rfl ?_
  refine g_iloadN D143 45 d_jdk_42m149_44 rfl rfl ?_
  have hk := hc143
  rcases hc143 with ⟨rfl, rfl, rfl, -⟩ | ⟨rfl, rfl, rfl, -⟩
  · refine g_callSp D143 48 (hw _ w_55) (hw _ w_56) (hw _ w_50) (hw _ w_57) (by decide) ((cCod_2_0 l Z a0 hw [] t143 k143 _ h143 n0 (Nat.le_trans Z0 E143.1) V143).back D143 1 (hw _ w_57) (hw _ w_50) (by decide) (by decide)) rfl [(.ref t143), (.int (2 : Int32))] rfl (lenOf pd_6 rfl) rfl (Nat.le_of_eq rfl) (by decide) (by decide) d_jdk_42m149_45 rfl ?_
    intro v144 T144 q144 D144
    subst q144
    show Go p e below _ (T144.setTop (mkF m 48 #[.val (.ref x), .val (.ref b), .val (.int (0 : Int32)), .val (.int (2 : Int32)), .val .null, .val (.ref t143)] [(.int (0 : Int32)), (.ref x)]))
    refine g_putF D144 51 (hw _ w_22) Via.refl (F_c.ext E143) (E_x.ext E143) (Or.inr ⟨(hw _ w_18), rfl, hnm⟩) (hw _ w_2) (ty := .byte) (by decide) rfl rfl (fun _ _ => trivial) d_jdk_42m149_48 rfl ?_
    intro T145 h145 W145 D145
    have N145 := Fr.snoc D145.st NF143 gx
    have F145 := (F_c.ext E143).same W145
    refine g_aloadN D145 52 d_jdk_42m149_51 rfl rfl rfl ?_
    refine g_aload D145 54 d_jdk_42m149_52 rfl rfl rfl ?_
    refine g_putF D145 57 (hw _ w_21) Via.refl ((F_v.ext E143).other W145 (Or.inr (slot_ne (Or.inr (hw _ w_17)) (Or.inr (hw _ w_18)) (by decide) (t := (.array .byte)) (t' := .byte) (by decide) (by decide)))) ((E_x.ext E143).wr W145) (Or.inr ⟨(hw _ w_17), rfl, hnm⟩) (hw _ w_2) (ty := (.array .byte)) (by decide) rfl rfl (fun _ _ => trivial) d_jdk_42m149_54 rfl ?_
    intro T146 h146 W146 D146
    have N146 := Fr.snoc D146.st N145 gx
    have F146 := ((F_v.ext E143).other W145 (Or.inr (slot_ne (Or.inr (hw _ w_17)) (Or.inr (hw _ w_18)) (by decide) (t := (.array .byte)) (t' := .byte) (by decide) (by decide)))).same W146
    exact r_V D146 hret hlk d_jdk_42m149_57 ⟨rfl, N146, ((((Keep.refl _ [x]).ext E143).wr W145 (Or.inl (List.mem_of_getElem? (i := 0) rfl))).wr W146 (Or.inl (List.mem_of_getElem? (i := 0) rfl))), t143, k143, (0 : Int32), _, _, (((E_x.ext E143).wr W145).wr W146), (F145.other W146 (Or.inr (slot_ne (Or.inr (hw _ w_18)) (Or.inr (hw _ w_17)) (by decide) (t := .byte) (t' := (.array .byte)) (by decide) (by decide)))), F146, ((V143.other W145 (Ne.symm (Nat.ne_of_lt (Nat.lt_of_lt_of_le E_x.lt g143)))).other W146 (Ne.symm (Nat.ne_of_lt (Nat.lt_of_lt_of_le E_x.lt g143)))), hk, (c16_cons H0 (c16_cons H1 c16_nil)), Nat.le_of_ble_eq_true rfl⟩ (by decide) (by decide)
  · refine g_callSp D143 48 (hw _ w_55) (hw _ w_56) (hw _ w_50) (hw _ w_57) (by decide) ((cCod_2_1 l Z a0 hw [] t143 k143 _ h143 n0 (Nat.le_trans Z0 E143.1) V143).back D143 1 (hw _ w_57) (hw _ w_50) (by decide) (by decide)) rfl [(.ref t143), (.int (2 : Int32))] rfl (lenOf pd_6 rfl) rfl (Nat.le_of_eq rfl) (by decide) (by decide) d_jdk_42m149_45 rfl ?_
    intro v147 T147 q147 D147
    subst q147
    show Go p e below _ (T147.setTop (mkF m 48 #[.val (.ref x), .val (.ref b), .val (.int (0 : Int32)), .val (.int (2 : Int32)), .val .null, .val (.ref t143)] [(.int (1 : Int32)), (.ref x)]))
    refine g_putF D147 51 (hw _ w_22) Via.refl (F_c.ext E143) (E_x.ext E143) (Or.inr ⟨(hw _ w_18), rfl, hnm⟩) (hw _ w_2) (ty := .byte) (by decide) rfl rfl (fun _ _ => trivial) d_jdk_42m149_48 rfl ?_
    intro T148 h148 W148 D148
    have N148 := Fr.snoc D148.st NF143 gx
    have F148 := (F_c.ext E143).same W148
    refine g_aloadN D148 52 d_jdk_42m149_51 rfl rfl rfl ?_
    refine g_aload D148 54 d_jdk_42m149_52 rfl rfl rfl ?_
    refine g_putF D148 57 (hw _ w_21) Via.refl ((F_v.ext E143).other W148 (Or.inr (slot_ne (Or.inr (hw _ w_17)) (Or.inr (hw _ w_18)) (by decide) (t := (.array .byte)) (t' := .byte) (by decide) (by decide)))) ((E_x.ext E143).wr W148) (Or.inr ⟨(hw _ w_17), rfl, hnm⟩) (hw _ w_2) (ty := (.array .byte)) (by decide) rfl rfl (fun _ _ => trivial) d_jdk_42m149_54 rfl ?_
    intro T149 h149 W149 D149
    have N149 := Fr.snoc D149.st N148 gx
    have F149 := ((F_v.ext E143).other W148 (Or.inr (slot_ne (Or.inr (hw _ w_17)) (Or.inr (hw _ w_18)) (by decide) (t := (.array .byte)) (t' := .byte) (by decide) (by decide)))).same W149
    exact r_V D149 hret hlk d_jdk_42m149_57 ⟨rfl, N149, ((((Keep.refl _ [x]).ext E143).wr W148 (Or.inl (List.mem_of_getElem? (i := 0) rfl))).wr W149 (Or.inl (List.mem_of_getElem? (i := 0) rfl))), t143, k143, (1 : Int32), _, _, (((E_x.ext E143).wr W148).wr W149), (F148.other W149 (Or.inr (slot_ne (Or.inr (hw _ w_18)) (Or.inr (hw _ w_17)) (by decide) (t := .byte) (t' := (.array .byte)) (by decide) (by decide)))), F149, ((V143.other W148 (Ne.symm (Nat.ne_of_lt (Nat.lt_of_lt_of_le E_x.lt g143)))).other W149 (Ne.symm (Nat.ne_of_lt (Nat.lt_of_lt_of_le E_x.lt g143)))), hk, (c16_cons H0 (c16_cons H1 c16_nil)), Nat.le_of_ble_eq_true rfl⟩ (by decide) (by decide)
def Q_cN1_2 (Z : State) (x b : Addr) (kc : ClassId) (zc : Int32) (c0 c1 : Int32) (h0 : Heap) (n0 : Nat) : Option Value → Heap → List Loc → Prop := (fun v h L => v = none ∧ Fr n0 L ∧ Keep h0 h [x] ∧ TS Z h x [c0, c1])
set_option maxRecDepth 65536 in
set_option maxHeartbeats 40000000 in
theorem cN1_2 (l : Launch) (Z : State) (a0 : Array Value) (hw : ∀ d ∈ tables_1, d.before a0 Z = true) (ws : List Jvm.Cond) (x b : Addr) (kc : ClassId) (zc : Int32) (c0 c1 : Int32) (h0 : Heap) (n0 : Nat) (Z0 : n0 ≤ h0.size) (OLD : Old Z n0 h0) (SA : Sta Z Z.heap "java/lang/StringUTF16" "$assertionsDisabled" "Z" (.int (1 : Int32))) (SH : Sta Z Z.heap "java/lang/StringUTF16" "HI_BYTE_SHIFT" "I" (.int (0 : Int32))) (SL : Sta Z Z.heap "java/lang/StringUTF16" "LO_BYTE_SHIFT" "I" (.int (8 : Int32))) (CS : Sta Z Z.heap "java/lang/String" "COMPACT_STRINGS" "Z" (.int zc)) (hzc : ¬ zc = 0) (E_x : Exa Z h0 x "java/lang/String") (F_v : Fld Z h0 x "java/lang/String" "value" "[B" .null) (F_c : Fld Z h0 x "java/lang/String" "coder" "B" (.int (0 : Int32))) (gx : n0 ≤ x) (V_b : Arv Z h0 b kc .char (2 : Int32) [(.int c0), (.int c1)] (.int (0 : Int32))) (H0 : C16 c0) (H1 : C16 c1) :
    Con l (⟨"java/lang/String", "<init>", "([C)V"⟩ : MethodName) jdk_42_method_3_code 2 none ws ({ frames := 5, cells := 2, slots := 6, locals := 74 } : Room) Z #[(.ref x), (.ref b)] h0 (Q_cN1_2 Z x b kc zc c0 c1 h0 n0) 2 6 := by
  refine enter (plainFor_of_name pn_1) ?_
  intro p e s m below meth c s₁ hnm hret hlk D0
  rw [ef_cN1_2 m x b]
  refine g_aloadN D0 1 d_jdk_42m3_0 rfl rfl rfl ?_
  refine g_aloadN D0 2 d_jdk_42m3_1 rfl rfl rfl ?_
  refine g_iconst D0 3 (0 : Int32) d_jdk_42m3_2 rfl rfl ?_
  refine g_aloadN D0 4 d_jdk_42m3_3 rfl rfl rfl ?_
  refine g_alen D0 5 V_b d_jdk_42m3_4 rfl ?_
  refine g_aconst D0 6 d_jdk_42m3_5 rfl ?_
  refine g_callN D0 9 rfl (hw _ w_8) (hw _ w_9) (hw _ w_11) (by decide) ((cN4_2 l Z a0 hw [] x b kc zc c0 c1 h0 n0 Z0 OLD SA SH SL CS hzc E_x F_v F_c gx V_b H0 H1).back D0 0 (hw _ w_11) (hw _ w_3) (by decide) (by decide)) rfl [(.ref b), (.int (0 : Int32)), (.int (2 : Int32)), .null] rfl (lenOf pd_7 rfl) rfl (Nat.le_of_eq rfl) (by decide) (by decide) (fun _ _ _ _ => trivial) d_jdk_42m3_6 rfl ?_
  intro v150 T150 h150 L150 q150 D150
  obtain ⟨rfl, N1, K1, X1⟩ := q150
  rw [List.nil_append] at D150
  show Go p e below _ (T150.setTop (mkF m 9 #[.val (.ref x), .val (.ref b)] []))
  exact r_V D150 hret hlk d_jdk_42m3_9 ⟨rfl, N1, K1, X1⟩ (by decide) (by decide)
set_option maxRecDepth 65536 in
set_option maxHeartbeats 40000000 in
theorem cNL_3 (l : Launch) (Z : State) (a0 : Array Value) (hw : ∀ d ∈ tables_1, d.before a0 Z = true) (ws : List Jvm.Cond)  (h0 : Heap) (n0 : Nat) (Z0 : n0 ≤ h0.size)  :
    Con l (⟨"java/lang/StringUTF16", "newBytesLength", "(I)I"⟩ : MethodName) jdk_52_method_3_code 1 (some .int) ws ({ frames := 0, cells := 0, slots := 0, locals := 0 } : Room) Z #[(.int (3 : Int32))] h0 (fun v h L => v = some (.int (6 : Int32)) ∧ L = [] ∧ h = h0) 0 0 := by
  refine enter (plainFor_of_name pn_0) ?_
  intro p e s m below meth c s₁ hnm hret hlk D0
  rw [ef_cNL_3 m]
  refine g_iloadN D0 1 d_jdk_52m3_0 rfl rfl ?_
  refine g_ifY D0 12 d_jdk_52m3_1 (by decide) (by decide) (by decide) ?_
  refine g_iloadN D0 13 d_jdk_52m3_12 rfl rfl ?_
  refine g_ldcI D0 15 (hw _ w_94) d_jdk_52m3_13 rfl ?_
  refine g_icmpY D0 55 d_jdk_52m3_15 (by decide) (by decide) (by decide) ?_
  refine g_iloadN D0 56 d_jdk_52m3_55 rfl rfl ?_
  refine g_iconst D0 57 (1 : Int32) d_jdk_52m3_56 rfl rfl ?_
  refine g_ishl D0 58 d_jdk_52m3_57 rfl ?_
  rw [show ((3 : Int32) <<< ((1 : Int32) &&& 31)) = (6 : Int32) from by decide]
  exact r_I D0 hret hlk d_jdk_52m3_58 ⟨rfl, rfl, rfl⟩ (by decide) (by decide)
def Q_cNB_3 (Z : State)  (h0 : Heap) (n0 : Nat) : Option Value → Heap → List Loc → Prop := (fun v h L => ∃ a k, v = some (.ref a) ∧ h0.size ≤ a ∧ Fr n0 L ∧ Ext h0 h ∧ Arv Z h a k .byte (6 : Int32) [(.int (0 : Int32)), (.int (0 : Int32)), (.int (0 : Int32)), (.int (0 : Int32)), (.int (0 : Int32)), (.int (0 : Int32))] (.int (0 : Int32)))
set_option maxRecDepth 65536 in
set_option maxHeartbeats 40000000 in
theorem cNB_3 (l : Launch) (Z : State) (a0 : Array Value) (hw : ∀ d ∈ tables_1, d.before a0 Z = true) (ws : List Jvm.Cond)  (h0 : Heap) (n0 : Nat) (Z0 : n0 ≤ h0.size)  :
    Con l (⟨"java/lang/StringUTF16", "newBytesFor", "(I)[B"⟩ : MethodName) jdk_52_method_2_code 1 (some (.array .byte)) ws ({ frames := 1, cells := 1, slots := 6, locals := 12 } : Room) Z #[(.int (3 : Int32))] h0 (Q_cNB_3 Z  h0 n0) 1 6 := by
  refine enter (plainFor_of_name pn_0) ?_
  intro p e s m below meth c s₁ hnm hret hlk D0
  rw [ef_cNB_3 m]
  refine g_iloadN D0 1 d_jdk_52m2_0 rfl rfl ?_
  refine g_callSp D0 4 (hw _ w_91) (hw _ w_92) (hw _ w_50) (hw _ w_93) (by decide) ((cNL_3 l Z a0 hw [] h0 n0 Z0).back D0 0 (hw _ w_93) (hw _ w_50) (by decide) (by decide)) rfl [(.int (3 : Int32))] rfl (lenOf pd_0 rfl) rfl (Nat.le_of_eq rfl) (by decide) (by decide) d_jdk_52m2_1 rfl ?_
  intro v151 T151 q151 D151
  subst q151
  show Go p e below _ (T151.setTop (mkF m 4 #[.val (.int (3 : Int32))] [(.int (6 : Int32))]))
  refine g_newP D151 6 (aty := .byte) (hw _ w_16) d_jdk_52m2_4 (by decide) (cap := 6) (by decide) (by decide) (by decide) (by decide) (fun _ _ => trivial) rfl ?_
  intro T152 h152 a152 k152 g152 E152 V152 D152
  have V152' : Arv Z h152 a152 k152 .byte (6 : Int32) [(.int (0 : Int32)), (.int (0 : Int32)), (.int (0 : Int32)), (.int (0 : Int32)), (.int (0 : Int32)), (.int (0 : Int32))] (.int (0 : Int32)) := V152.pad (pad_rep [] (.int (0 : Int32)) 6)
  exact r_A D152 hret rfl rfl hlk d_jdk_52m2_6 ⟨a152, _, rfl, (Nat.le_trans (Nat.le_refl _) (Nat.le_of_eq g152.symm)), (Fr.nil n0), Keep.toExt ((Keep.refl _ []).ext E152), V152'⟩ (by decide) (by decide)
def Q_cPut_3_0 (Z : State) (t : Addr) (kb : ClassId) (ch : Int32) (v0 v1 v2 v3 v4 v5 : Value) (h0 : Heap) (n0 : Nat) : Option Value → Heap → List Loc → Prop := (fun v h L => v = none ∧ Fr n0 L ∧ Keep h0 h [t] ∧ Arv Z h t kb .byte (6 : Int32) [(.int (StrChars.lo8 ch)), (.int (StrChars.hi8 ch)), v2, v3, v4, v5] (.int (0 : Int32)))
set_option maxRecDepth 65536 in
set_option maxHeartbeats 40000000 in
theorem cPut_3_0 (l : Launch) (Z : State) (a0 : Array Value) (hw : ∀ d ∈ tables_1, d.before a0 Z = true) (ws : List Jvm.Cond) (t : Addr) (kb : ClassId) (ch : Int32) (v0 v1 v2 v3 v4 v5 : Value) (h0 : Heap) (n0 : Nat) (Z0 : n0 ≤ h0.size) (OLD : Old Z n0 h0) (SA : Sta Z Z.heap "java/lang/StringUTF16" "$assertionsDisabled" "Z" (.int (1 : Int32))) (SH : Sta Z Z.heap "java/lang/StringUTF16" "HI_BYTE_SHIFT" "I" (.int (0 : Int32))) (SL : Sta Z Z.heap "java/lang/StringUTF16" "LO_BYTE_SHIFT" "I" (.int (8 : Int32))) (V_t : Arv Z h0 t kb .byte (6 : Int32) [v0, v1, v2, v3, v4, v5] (.int (0 : Int32))) (gt : n0 ≤ t) :
    Con l (⟨"java/lang/StringUTF16", "putChar", "([BII)V"⟩ : MethodName) jdk_52_method_4_code 3 none ws ({ frames := 0, cells := 0, slots := 0, locals := 0 } : Room) Z #[(.ref t), (.int (0 : Int32)), (.int ch)] h0 (Q_cPut_3_0 Z t kb ch v0 v1 v2 v3 v4 v5 h0 n0) 0 0 := by
  refine enter (plainFor_of_name pn_0) ?_
  intro p e s m below meth c s₁ hnm hret hlk D0
  rw [ef_cPut_3_0 m t ch]
  refine g_getS D0 3 (hw _ w_98) Via.refl (SA.ext OLD.2) d_jdk_52m4_0 rfl ?_
  intro T153 D153
  refine g_ifY D153 28 d_jdk_52m4_3 (by decide) (by decide) (by decide) ?_
  refine g_iloadN D153 29 d_jdk_52m4_28 rfl rfl ?_
  refine g_iconst D153 30 (1 : Int32) d_jdk_52m4_29 rfl rfl ?_
  refine g_ishl D153 31 d_jdk_52m4_30 rfl ?_
  rw [show ((0 : Int32) <<< ((1 : Int32) &&& 31)) = (0 : Int32) from by decide]
  refine g_istoreN D153 32 #[.val (.ref t), .val (.int (0 : Int32)), .val (.int ch)] d_jdk_52m4_31 rfl rfl ?_
  refine g_aloadN D153 33 d_jdk_52m4_32 rfl rfl rfl ?_
  refine g_iloadN D153 34 d_jdk_52m4_33 rfl rfl ?_
  refine g_iinc D153 37 (1 : Int32) #[.val (.ref t), .val (.int ((0 : Int32) + (1 : Int32))), .val (.int ch)] d_jdk_52m4_34 rfl rfl rfl rfl ?_
  rw [show ((0 : Int32) + (1 : Int32)) = (1 : Int32) from by decide]
  refine g_iloadN D153 38 d_jdk_52m4_37 rfl rfl ?_
  refine g_getS D153 41 (hw _ w_99) Via.refl (SH.ext OLD.2) d_jdk_52m4_38 rfl ?_
  intro T154 D154
  refine g_ishr D154 42 d_jdk_52m4_41 rfl ?_
  refine g_i2b D154 43 d_jdk_52m4_42 rfl ?_
  refine g_bastore D154 44 V_t ⟨by decide, by decide⟩ 0 (by decide) (Nat.le_of_ble_eq_true rfl) (fun _ _ => trivial) d_jdk_52m4_43 rfl ?_
  intro T155 h155 W155 V155 D155
  rw [nb_lo ch] at V155
  replace V155 : Arv Z h155 t kb .byte (6 : Int32) [(.int (StrChars.lo8 ch)), v1, v2, v3, v4, v5] (.int (0 : Int32)) := V155
  have N155 := Fr.snoc D155.st (Fr.nil n0) gt
  refine g_aloadN D155 45 d_jdk_52m4_44 rfl rfl rfl ?_
  refine g_iloadN D155 46 d_jdk_52m4_45 rfl rfl ?_
  refine g_iloadN D155 47 d_jdk_52m4_46 rfl rfl ?_
  refine g_getS D155 50 (hw _ w_100) Via.refl (SL.ext (OLD.wr W155 gt).2) d_jdk_52m4_47 rfl ?_
  intro T156 D156
  refine g_ishr D156 51 d_jdk_52m4_50 rfl ?_
  refine g_i2b D156 52 d_jdk_52m4_51 rfl ?_
  refine g_bastore D156 53 V155 ⟨by decide, by decide⟩ 1 (by decide) (Nat.le_of_ble_eq_true rfl) (fun _ _ => trivial) d_jdk_52m4_52 rfl ?_
  intro T157 h157 W157 V157 D157
  rw [nb_hi ch] at V157
  replace V157 : Arv Z h157 t kb .byte (6 : Int32) [(.int (StrChars.lo8 ch)), (.int (StrChars.hi8 ch)), v2, v3, v4, v5] (.int (0 : Int32)) := V157
  have N157 := Fr.snoc D157.st N155 gt
  exact r_V D157 hret hlk d_jdk_52m4_53 ⟨rfl, N157, (((Keep.refl _ [t]).wr W155 (Or.inl (List.mem_of_getElem? (i := 0) rfl))).wr W157 (Or.inl (List.mem_of_getElem? (i := 0) rfl))), V157⟩ (by decide) (by decide)
set_option maxRecDepth 65536 in
set_option maxHeartbeats 40000000 in
theorem cGet_3_0 (l : Launch) (Z : State) (a0 : Array Value) (hw : ∀ d ∈ tables_1, d.before a0 Z = true) (ws : List Jvm.Cond) (t : Addr) (kb : ClassId) (c0 c1 c2 : Int32) (h0 : Heap) (n0 : Nat) (Z0 : n0 ≤ h0.size) (OLD : Old Z n0 h0) (SA : Sta Z Z.heap "java/lang/StringUTF16" "$assertionsDisabled" "Z" (.int (1 : Int32))) (SH : Sta Z Z.heap "java/lang/StringUTF16" "HI_BYTE_SHIFT" "I" (.int (0 : Int32))) (SL : Sta Z Z.heap "java/lang/StringUTF16" "LO_BYTE_SHIFT" "I" (.int (8 : Int32))) (V_t : Arv Z h0 t kb .byte (6 : Int32) (StrChars.Road.wideBytes [c0, c1, c2]) (.int (0 : Int32))) (Hi : C16 c0) :
    Con l (⟨"java/lang/StringUTF16", "getChar", "([BI)C"⟩ : MethodName) jdk_52_method_5_code 2 (some .char) ws ({ frames := 0, cells := 0, slots := 0, locals := 0 } : Room) Z #[(.ref t), (.int (0 : Int32))] h0 (fun v h L => v = some (.int c0) ∧ L = [] ∧ h = h0) 0 0 := by
  refine enter (plainFor_of_name pn_0) ?_
  intro p e s m below meth c s₁ hnm hret hlk D0
  rw [ef_cGet_3_0 m t]
  refine g_getS D0 3 (hw _ w_98) Via.refl (SA.ext OLD.2) d_jdk_52m5_0 rfl ?_
  intro T158 D158
  refine g_ifY D158 28 d_jdk_52m5_3 (by decide) (by decide) (by decide) ?_
  refine g_iloadN D158 29 d_jdk_52m5_28 rfl rfl ?_
  refine g_iconst D158 30 (1 : Int32) d_jdk_52m5_29 rfl rfl ?_
  refine g_ishl D158 31 d_jdk_52m5_30 rfl ?_
  rw [show ((0 : Int32) <<< ((1 : Int32) &&& 31)) = (0 : Int32) from by decide]
  refine g_istoreN D158 32 #[.val (.ref t), .val (.int (0 : Int32))] d_jdk_52m5_31 rfl rfl ?_
  refine g_aloadN D158 33 d_jdk_52m5_32 rfl rfl rfl ?_
  refine g_iloadN D158 34 d_jdk_52m5_33 rfl rfl ?_
  refine g_iinc D158 37 (1 : Int32) #[.val (.ref t), .val (.int ((0 : Int32) + (1 : Int32)))] d_jdk_52m5_34 rfl rfl rfl rfl ?_
  rw [show ((0 : Int32) + (1 : Int32)) = (1 : Int32) from by decide]
  refine g_baload D158 38 V_t (v := (.int (StrChars.lo8 c0))) ⟨by decide, by decide⟩ rfl d_jdk_52m5_37 rfl ?_
  refine g_sipush D158 41 (255 : Int32) d_jdk_52m5_38 rfl rfl ?_
  refine g_iand D158 42 d_jdk_52m5_41 rfl ?_
  refine g_getS D158 45 (hw _ w_99) Via.refl (SH.ext OLD.2) d_jdk_52m5_42 rfl ?_
  intro T159 D159
  refine g_ishl D159 46 d_jdk_52m5_45 rfl ?_
  refine g_aloadN D159 47 d_jdk_52m5_46 rfl rfl rfl ?_
  refine g_iloadN D159 48 d_jdk_52m5_47 rfl rfl ?_
  refine g_baload D159 49 V_t (v := (.int (StrChars.hi8 c0))) ⟨by decide, by decide⟩ rfl d_jdk_52m5_48 rfl ?_
  refine g_sipush D159 52 (255 : Int32) d_jdk_52m5_49 rfl rfl ?_
  refine g_iand D159 53 d_jdk_52m5_52 rfl ?_
  refine g_getS D159 56 (hw _ w_100) Via.refl (SL.ext OLD.2) d_jdk_52m5_53 rfl ?_
  intro T160 D160
  refine g_ishl D160 57 d_jdk_52m5_56 rfl ?_
  refine g_ior D160 58 d_jdk_52m5_57 rfl ?_
  refine g_i2c D160 59 d_jdk_52m5_58 rfl ?_
  exact r_N D160 hret (by simp) hlk d_jdk_52m5_59 ⟨congrArg (fun z => some (Value.int z)) (get_says Hi), rfl, rfl⟩ (by decide) (by decide)
def Q_cPut_3_1 (Z : State) (t : Addr) (kb : ClassId) (ch : Int32) (v0 v1 v2 v3 v4 v5 : Value) (h0 : Heap) (n0 : Nat) : Option Value → Heap → List Loc → Prop := (fun v h L => v = none ∧ Fr n0 L ∧ Keep h0 h [t] ∧ Arv Z h t kb .byte (6 : Int32) [v0, v1, (.int (StrChars.lo8 ch)), (.int (StrChars.hi8 ch)), v4, v5] (.int (0 : Int32)))
set_option maxRecDepth 65536 in
set_option maxHeartbeats 40000000 in
theorem cPut_3_1 (l : Launch) (Z : State) (a0 : Array Value) (hw : ∀ d ∈ tables_1, d.before a0 Z = true) (ws : List Jvm.Cond) (t : Addr) (kb : ClassId) (ch : Int32) (v0 v1 v2 v3 v4 v5 : Value) (h0 : Heap) (n0 : Nat) (Z0 : n0 ≤ h0.size) (OLD : Old Z n0 h0) (SA : Sta Z Z.heap "java/lang/StringUTF16" "$assertionsDisabled" "Z" (.int (1 : Int32))) (SH : Sta Z Z.heap "java/lang/StringUTF16" "HI_BYTE_SHIFT" "I" (.int (0 : Int32))) (SL : Sta Z Z.heap "java/lang/StringUTF16" "LO_BYTE_SHIFT" "I" (.int (8 : Int32))) (V_t : Arv Z h0 t kb .byte (6 : Int32) [v0, v1, v2, v3, v4, v5] (.int (0 : Int32))) (gt : n0 ≤ t) :
    Con l (⟨"java/lang/StringUTF16", "putChar", "([BII)V"⟩ : MethodName) jdk_52_method_4_code 3 none ws ({ frames := 0, cells := 0, slots := 0, locals := 0 } : Room) Z #[(.ref t), (.int (1 : Int32)), (.int ch)] h0 (Q_cPut_3_1 Z t kb ch v0 v1 v2 v3 v4 v5 h0 n0) 0 0 := by
  refine enter (plainFor_of_name pn_0) ?_
  intro p e s m below meth c s₁ hnm hret hlk D0
  rw [ef_cPut_3_1 m t ch]
  refine g_getS D0 3 (hw _ w_98) Via.refl (SA.ext OLD.2) d_jdk_52m4_0 rfl ?_
  intro T161 D161
  refine g_ifY D161 28 d_jdk_52m4_3 (by decide) (by decide) (by decide) ?_
  refine g_iloadN D161 29 d_jdk_52m4_28 rfl rfl ?_
  refine g_iconst D161 30 (1 : Int32) d_jdk_52m4_29 rfl rfl ?_
  refine g_ishl D161 31 d_jdk_52m4_30 rfl ?_
  rw [show ((1 : Int32) <<< ((1 : Int32) &&& 31)) = (2 : Int32) from by decide]
  refine g_istoreN D161 32 #[.val (.ref t), .val (.int (2 : Int32)), .val (.int ch)] d_jdk_52m4_31 rfl rfl ?_
  refine g_aloadN D161 33 d_jdk_52m4_32 rfl rfl rfl ?_
  refine g_iloadN D161 34 d_jdk_52m4_33 rfl rfl ?_
  refine g_iinc D161 37 (1 : Int32) #[.val (.ref t), .val (.int ((2 : Int32) + (1 : Int32))), .val (.int ch)] d_jdk_52m4_34 rfl rfl rfl rfl ?_
  rw [show ((2 : Int32) + (1 : Int32)) = (3 : Int32) from by decide]
  refine g_iloadN D161 38 d_jdk_52m4_37 rfl rfl ?_
  refine g_getS D161 41 (hw _ w_99) Via.refl (SH.ext OLD.2) d_jdk_52m4_38 rfl ?_
  intro T162 D162
  refine g_ishr D162 42 d_jdk_52m4_41 rfl ?_
  refine g_i2b D162 43 d_jdk_52m4_42 rfl ?_
  refine g_bastore D162 44 V_t ⟨by decide, by decide⟩ 2 (by decide) (Nat.le_of_ble_eq_true rfl) (fun _ _ => trivial) d_jdk_52m4_43 rfl ?_
  intro T163 h163 W163 V163 D163
  rw [nb_lo ch] at V163
  replace V163 : Arv Z h163 t kb .byte (6 : Int32) [v0, v1, (.int (StrChars.lo8 ch)), v3, v4, v5] (.int (0 : Int32)) := V163
  have N163 := Fr.snoc D163.st (Fr.nil n0) gt
  refine g_aloadN D163 45 d_jdk_52m4_44 rfl rfl rfl ?_
  refine g_iloadN D163 46 d_jdk_52m4_45 rfl rfl ?_
  refine g_iloadN D163 47 d_jdk_52m4_46 rfl rfl ?_
  refine g_getS D163 50 (hw _ w_100) Via.refl (SL.ext (OLD.wr W163 gt).2) d_jdk_52m4_47 rfl ?_
  intro T164 D164
  refine g_ishr D164 51 d_jdk_52m4_50 rfl ?_
  refine g_i2b D164 52 d_jdk_52m4_51 rfl ?_
  refine g_bastore D164 53 V163 ⟨by decide, by decide⟩ 3 (by decide) (Nat.le_of_ble_eq_true rfl) (fun _ _ => trivial) d_jdk_52m4_52 rfl ?_
  intro T165 h165 W165 V165 D165
  rw [nb_hi ch] at V165
  replace V165 : Arv Z h165 t kb .byte (6 : Int32) [v0, v1, (.int (StrChars.lo8 ch)), (.int (StrChars.hi8 ch)), v4, v5] (.int (0 : Int32)) := V165
  have N165 := Fr.snoc D165.st N163 gt
  exact r_V D165 hret hlk d_jdk_52m4_53 ⟨rfl, N165, (((Keep.refl _ [t]).wr W163 (Or.inl (List.mem_of_getElem? (i := 0) rfl))).wr W165 (Or.inl (List.mem_of_getElem? (i := 0) rfl))), V165⟩ (by decide) (by decide)
set_option maxRecDepth 65536 in
set_option maxHeartbeats 40000000 in
theorem cGet_3_1 (l : Launch) (Z : State) (a0 : Array Value) (hw : ∀ d ∈ tables_1, d.before a0 Z = true) (ws : List Jvm.Cond) (t : Addr) (kb : ClassId) (c0 c1 c2 : Int32) (h0 : Heap) (n0 : Nat) (Z0 : n0 ≤ h0.size) (OLD : Old Z n0 h0) (SA : Sta Z Z.heap "java/lang/StringUTF16" "$assertionsDisabled" "Z" (.int (1 : Int32))) (SH : Sta Z Z.heap "java/lang/StringUTF16" "HI_BYTE_SHIFT" "I" (.int (0 : Int32))) (SL : Sta Z Z.heap "java/lang/StringUTF16" "LO_BYTE_SHIFT" "I" (.int (8 : Int32))) (V_t : Arv Z h0 t kb .byte (6 : Int32) (StrChars.Road.wideBytes [c0, c1, c2]) (.int (0 : Int32))) (Hi : C16 c1) :
    Con l (⟨"java/lang/StringUTF16", "getChar", "([BI)C"⟩ : MethodName) jdk_52_method_5_code 2 (some .char) ws ({ frames := 0, cells := 0, slots := 0, locals := 0 } : Room) Z #[(.ref t), (.int (1 : Int32))] h0 (fun v h L => v = some (.int c1) ∧ L = [] ∧ h = h0) 0 0 := by
  refine enter (plainFor_of_name pn_0) ?_
  intro p e s m below meth c s₁ hnm hret hlk D0
  rw [ef_cGet_3_1 m t]
  refine g_getS D0 3 (hw _ w_98) Via.refl (SA.ext OLD.2) d_jdk_52m5_0 rfl ?_
  intro T166 D166
  refine g_ifY D166 28 d_jdk_52m5_3 (by decide) (by decide) (by decide) ?_
  refine g_iloadN D166 29 d_jdk_52m5_28 rfl rfl ?_
  refine g_iconst D166 30 (1 : Int32) d_jdk_52m5_29 rfl rfl ?_
  refine g_ishl D166 31 d_jdk_52m5_30 rfl ?_
  rw [show ((1 : Int32) <<< ((1 : Int32) &&& 31)) = (2 : Int32) from by decide]
  refine g_istoreN D166 32 #[.val (.ref t), .val (.int (2 : Int32))] d_jdk_52m5_31 rfl rfl ?_
  refine g_aloadN D166 33 d_jdk_52m5_32 rfl rfl rfl ?_
  refine g_iloadN D166 34 d_jdk_52m5_33 rfl rfl ?_
  refine g_iinc D166 37 (1 : Int32) #[.val (.ref t), .val (.int ((2 : Int32) + (1 : Int32)))] d_jdk_52m5_34 rfl rfl rfl rfl ?_
  rw [show ((2 : Int32) + (1 : Int32)) = (3 : Int32) from by decide]
  refine g_baload D166 38 V_t (v := (.int (StrChars.lo8 c1))) ⟨by decide, by decide⟩ rfl d_jdk_52m5_37 rfl ?_
  refine g_sipush D166 41 (255 : Int32) d_jdk_52m5_38 rfl rfl ?_
  refine g_iand D166 42 d_jdk_52m5_41 rfl ?_
  refine g_getS D166 45 (hw _ w_99) Via.refl (SH.ext OLD.2) d_jdk_52m5_42 rfl ?_
  intro T167 D167
  refine g_ishl D167 46 d_jdk_52m5_45 rfl ?_
  refine g_aloadN D167 47 d_jdk_52m5_46 rfl rfl rfl ?_
  refine g_iloadN D167 48 d_jdk_52m5_47 rfl rfl ?_
  refine g_baload D167 49 V_t (v := (.int (StrChars.hi8 c1))) ⟨by decide, by decide⟩ rfl d_jdk_52m5_48 rfl ?_
  refine g_sipush D167 52 (255 : Int32) d_jdk_52m5_49 rfl rfl ?_
  refine g_iand D167 53 d_jdk_52m5_52 rfl ?_
  refine g_getS D167 56 (hw _ w_100) Via.refl (SL.ext OLD.2) d_jdk_52m5_53 rfl ?_
  intro T168 D168
  refine g_ishl D168 57 d_jdk_52m5_56 rfl ?_
  refine g_ior D168 58 d_jdk_52m5_57 rfl ?_
  refine g_i2c D168 59 d_jdk_52m5_58 rfl ?_
  exact r_N D168 hret (by simp) hlk d_jdk_52m5_59 ⟨congrArg (fun z => some (Value.int z)) (get_says Hi), rfl, rfl⟩ (by decide) (by decide)
def Q_cPut_3_2 (Z : State) (t : Addr) (kb : ClassId) (ch : Int32) (v0 v1 v2 v3 v4 v5 : Value) (h0 : Heap) (n0 : Nat) : Option Value → Heap → List Loc → Prop := (fun v h L => v = none ∧ Fr n0 L ∧ Keep h0 h [t] ∧ Arv Z h t kb .byte (6 : Int32) [v0, v1, v2, v3, (.int (StrChars.lo8 ch)), (.int (StrChars.hi8 ch))] (.int (0 : Int32)))
set_option maxRecDepth 65536 in
set_option maxHeartbeats 40000000 in
theorem cPut_3_2 (l : Launch) (Z : State) (a0 : Array Value) (hw : ∀ d ∈ tables_1, d.before a0 Z = true) (ws : List Jvm.Cond) (t : Addr) (kb : ClassId) (ch : Int32) (v0 v1 v2 v3 v4 v5 : Value) (h0 : Heap) (n0 : Nat) (Z0 : n0 ≤ h0.size) (OLD : Old Z n0 h0) (SA : Sta Z Z.heap "java/lang/StringUTF16" "$assertionsDisabled" "Z" (.int (1 : Int32))) (SH : Sta Z Z.heap "java/lang/StringUTF16" "HI_BYTE_SHIFT" "I" (.int (0 : Int32))) (SL : Sta Z Z.heap "java/lang/StringUTF16" "LO_BYTE_SHIFT" "I" (.int (8 : Int32))) (V_t : Arv Z h0 t kb .byte (6 : Int32) [v0, v1, v2, v3, v4, v5] (.int (0 : Int32))) (gt : n0 ≤ t) :
    Con l (⟨"java/lang/StringUTF16", "putChar", "([BII)V"⟩ : MethodName) jdk_52_method_4_code 3 none ws ({ frames := 0, cells := 0, slots := 0, locals := 0 } : Room) Z #[(.ref t), (.int (2 : Int32)), (.int ch)] h0 (Q_cPut_3_2 Z t kb ch v0 v1 v2 v3 v4 v5 h0 n0) 0 0 := by
  refine enter (plainFor_of_name pn_0) ?_
  intro p e s m below meth c s₁ hnm hret hlk D0
  rw [ef_cPut_3_2 m t ch]
  refine g_getS D0 3 (hw _ w_98) Via.refl (SA.ext OLD.2) d_jdk_52m4_0 rfl ?_
  intro T169 D169
  refine g_ifY D169 28 d_jdk_52m4_3 (by decide) (by decide) (by decide) ?_
  refine g_iloadN D169 29 d_jdk_52m4_28 rfl rfl ?_
  refine g_iconst D169 30 (1 : Int32) d_jdk_52m4_29 rfl rfl ?_
  refine g_ishl D169 31 d_jdk_52m4_30 rfl ?_
  rw [show ((2 : Int32) <<< ((1 : Int32) &&& 31)) = (4 : Int32) from by decide]
  refine g_istoreN D169 32 #[.val (.ref t), .val (.int (4 : Int32)), .val (.int ch)] d_jdk_52m4_31 rfl rfl ?_
  refine g_aloadN D169 33 d_jdk_52m4_32 rfl rfl rfl ?_
  refine g_iloadN D169 34 d_jdk_52m4_33 rfl rfl ?_
  refine g_iinc D169 37 (1 : Int32) #[.val (.ref t), .val (.int ((4 : Int32) + (1 : Int32))), .val (.int ch)] d_jdk_52m4_34 rfl rfl rfl rfl ?_
  rw [show ((4 : Int32) + (1 : Int32)) = (5 : Int32) from by decide]
  refine g_iloadN D169 38 d_jdk_52m4_37 rfl rfl ?_
  refine g_getS D169 41 (hw _ w_99) Via.refl (SH.ext OLD.2) d_jdk_52m4_38 rfl ?_
  intro T170 D170
  refine g_ishr D170 42 d_jdk_52m4_41 rfl ?_
  refine g_i2b D170 43 d_jdk_52m4_42 rfl ?_
  refine g_bastore D170 44 V_t ⟨by decide, by decide⟩ 4 (by decide) (Nat.le_of_ble_eq_true rfl) (fun _ _ => trivial) d_jdk_52m4_43 rfl ?_
  intro T171 h171 W171 V171 D171
  rw [nb_lo ch] at V171
  replace V171 : Arv Z h171 t kb .byte (6 : Int32) [v0, v1, v2, v3, (.int (StrChars.lo8 ch)), v5] (.int (0 : Int32)) := V171
  have N171 := Fr.snoc D171.st (Fr.nil n0) gt
  refine g_aloadN D171 45 d_jdk_52m4_44 rfl rfl rfl ?_
  refine g_iloadN D171 46 d_jdk_52m4_45 rfl rfl ?_
  refine g_iloadN D171 47 d_jdk_52m4_46 rfl rfl ?_
  refine g_getS D171 50 (hw _ w_100) Via.refl (SL.ext (OLD.wr W171 gt).2) d_jdk_52m4_47 rfl ?_
  intro T172 D172
  refine g_ishr D172 51 d_jdk_52m4_50 rfl ?_
  refine g_i2b D172 52 d_jdk_52m4_51 rfl ?_
  refine g_bastore D172 53 V171 ⟨by decide, by decide⟩ 5 (by decide) (Nat.le_of_ble_eq_true rfl) (fun _ _ => trivial) d_jdk_52m4_52 rfl ?_
  intro T173 h173 W173 V173 D173
  rw [nb_hi ch] at V173
  replace V173 : Arv Z h173 t kb .byte (6 : Int32) [v0, v1, v2, v3, (.int (StrChars.lo8 ch)), (.int (StrChars.hi8 ch))] (.int (0 : Int32)) := V173
  have N173 := Fr.snoc D173.st N171 gt
  exact r_V D173 hret hlk d_jdk_52m4_53 ⟨rfl, N173, (((Keep.refl _ [t]).wr W171 (Or.inl (List.mem_of_getElem? (i := 0) rfl))).wr W173 (Or.inl (List.mem_of_getElem? (i := 0) rfl))), V173⟩ (by decide) (by decide)
set_option maxRecDepth 65536 in
set_option maxHeartbeats 40000000 in
theorem cGet_3_2 (l : Launch) (Z : State) (a0 : Array Value) (hw : ∀ d ∈ tables_1, d.before a0 Z = true) (ws : List Jvm.Cond) (t : Addr) (kb : ClassId) (c0 c1 c2 : Int32) (h0 : Heap) (n0 : Nat) (Z0 : n0 ≤ h0.size) (OLD : Old Z n0 h0) (SA : Sta Z Z.heap "java/lang/StringUTF16" "$assertionsDisabled" "Z" (.int (1 : Int32))) (SH : Sta Z Z.heap "java/lang/StringUTF16" "HI_BYTE_SHIFT" "I" (.int (0 : Int32))) (SL : Sta Z Z.heap "java/lang/StringUTF16" "LO_BYTE_SHIFT" "I" (.int (8 : Int32))) (V_t : Arv Z h0 t kb .byte (6 : Int32) (StrChars.Road.wideBytes [c0, c1, c2]) (.int (0 : Int32))) (Hi : C16 c2) :
    Con l (⟨"java/lang/StringUTF16", "getChar", "([BI)C"⟩ : MethodName) jdk_52_method_5_code 2 (some .char) ws ({ frames := 0, cells := 0, slots := 0, locals := 0 } : Room) Z #[(.ref t), (.int (2 : Int32))] h0 (fun v h L => v = some (.int c2) ∧ L = [] ∧ h = h0) 0 0 := by
  refine enter (plainFor_of_name pn_0) ?_
  intro p e s m below meth c s₁ hnm hret hlk D0
  rw [ef_cGet_3_2 m t]
  refine g_getS D0 3 (hw _ w_98) Via.refl (SA.ext OLD.2) d_jdk_52m5_0 rfl ?_
  intro T174 D174
  refine g_ifY D174 28 d_jdk_52m5_3 (by decide) (by decide) (by decide) ?_
  refine g_iloadN D174 29 d_jdk_52m5_28 rfl rfl ?_
  refine g_iconst D174 30 (1 : Int32) d_jdk_52m5_29 rfl rfl ?_
  refine g_ishl D174 31 d_jdk_52m5_30 rfl ?_
  rw [show ((2 : Int32) <<< ((1 : Int32) &&& 31)) = (4 : Int32) from by decide]
  refine g_istoreN D174 32 #[.val (.ref t), .val (.int (4 : Int32))] d_jdk_52m5_31 rfl rfl ?_
  refine g_aloadN D174 33 d_jdk_52m5_32 rfl rfl rfl ?_
  refine g_iloadN D174 34 d_jdk_52m5_33 rfl rfl ?_
  refine g_iinc D174 37 (1 : Int32) #[.val (.ref t), .val (.int ((4 : Int32) + (1 : Int32)))] d_jdk_52m5_34 rfl rfl rfl rfl ?_
  rw [show ((4 : Int32) + (1 : Int32)) = (5 : Int32) from by decide]
  refine g_baload D174 38 V_t (v := (.int (StrChars.lo8 c2))) ⟨by decide, by decide⟩ rfl d_jdk_52m5_37 rfl ?_
  refine g_sipush D174 41 (255 : Int32) d_jdk_52m5_38 rfl rfl ?_
  refine g_iand D174 42 d_jdk_52m5_41 rfl ?_
  refine g_getS D174 45 (hw _ w_99) Via.refl (SH.ext OLD.2) d_jdk_52m5_42 rfl ?_
  intro T175 D175
  refine g_ishl D175 46 d_jdk_52m5_45 rfl ?_
  refine g_aloadN D175 47 d_jdk_52m5_46 rfl rfl rfl ?_
  refine g_iloadN D175 48 d_jdk_52m5_47 rfl rfl ?_
  refine g_baload D175 49 V_t (v := (.int (StrChars.hi8 c2))) ⟨by decide, by decide⟩ rfl d_jdk_52m5_48 rfl ?_
  refine g_sipush D175 52 (255 : Int32) d_jdk_52m5_49 rfl rfl ?_
  refine g_iand D175 53 d_jdk_52m5_52 rfl ?_
  refine g_getS D175 56 (hw _ w_100) Via.refl (SL.ext OLD.2) d_jdk_52m5_53 rfl ?_
  intro T176 D176
  refine g_ishl D176 57 d_jdk_52m5_56 rfl ?_
  refine g_ior D176 58 d_jdk_52m5_57 rfl ?_
  refine g_i2c D176 59 d_jdk_52m5_58 rfl ?_
  exact r_N D176 hret (by simp) hlk d_jdk_52m5_59 ⟨congrArg (fun z => some (Value.int z)) (get_says Hi), rfl, rfl⟩ (by decide) (by decide)
def Q_cToB_3 (Z : State) (b : Addr) (kc : ClassId) (c0 c1 c2 : Int32) (h0 : Heap) (n0 : Nat) : Option Value → Heap → List Loc → Prop := (fun v h L => ∃ t k, v = some (.ref t) ∧ h0.size ≤ t ∧ Fr n0 L ∧ Ext h0 h ∧ Arv Z h t k .byte (6 : Int32) (StrChars.Road.wideBytes [c0, c1, c2]) (.int (0 : Int32)))
set_option maxRecDepth 65536 in
set_option maxHeartbeats 40000000 in
theorem cToB_3 (l : Launch) (Z : State) (a0 : Array Value) (hw : ∀ d ∈ tables_1, d.before a0 Z = true) (ws : List Jvm.Cond) (b : Addr) (kc : ClassId) (c0 c1 c2 : Int32) (h0 : Heap) (n0 : Nat) (Z0 : n0 ≤ h0.size) (OLD : Old Z n0 h0) (SA : Sta Z Z.heap "java/lang/StringUTF16" "$assertionsDisabled" "Z" (.int (1 : Int32))) (SH : Sta Z Z.heap "java/lang/StringUTF16" "HI_BYTE_SHIFT" "I" (.int (0 : Int32))) (SL : Sta Z Z.heap "java/lang/StringUTF16" "LO_BYTE_SHIFT" "I" (.int (8 : Int32))) (V_b : Arv Z h0 b kc .char (3 : Int32) [(.int c0), (.int c1), (.int c2)] (.int (0 : Int32))) :
    Con l (⟨"java/lang/StringUTF16", "toBytes", "([CII)[B"⟩ : MethodName) jdk_52_method_14_code 5 (some (.array .byte)) ws ({ frames := 2, cells := 1, slots := 6, locals := 24 } : Room) Z #[(.ref b), (.int (0 : Int32)), (.int (3 : Int32))] h0 (Q_cToB_3 Z b kc c0 c1 c2 h0 n0) 1 6 := by
  refine enter (plainFor_of_name pn_0) ?_
  intro p e s m below meth c s₁ hnm hret hlk D0
  rw [ef_cToB_3 m b]
  refine g_iloadN D0 1 d_jdk_52m14_0 rfl rfl ?_
  refine g_callS D0 4 (hw _ w_88) (hw _ w_89) (hw _ w_50) (hw _ w_90) (by decide) ((cNB_3 l Z a0 hw [] h0 n0 Z0).back D0 0 (hw _ w_90) (hw _ w_50) (by decide) (by decide)) rfl [(.int (3 : Int32))] rfl (lenOf pd_1 rfl) rfl (Nat.le_of_eq rfl) (by decide) (by decide) (fun _ _ _ _ => trivial) d_jdk_52m14_1 rfl ?_
  intro v177 T177 h177 L177 q177 D177
  obtain ⟨t177, k177, rfl, g177, N177, E177, V177⟩ := q177
  have NF177 := Fr.app (Fr.nil n0) N177
  show Go p e below _ (T177.setTop (mkF m 4 #[.val (.ref b), .val (.int (0 : Int32)), .val (.int (3 : Int32)), .unset, .unset] [(.ref t177)]))
  refine g_astoreN D177 5 #[.val (.ref b), .val (.int (0 : Int32)), .val (.int (3 : Int32)), .val (.ref t177), .unset] d_jdk_52m14_4 rfl rfl rfl ?_
  refine g_iconst D177 6 (0 : Int32) d_jdk_52m14_5 rfl rfl ?_
  refine g_istore D177 8 #[.val (.ref b), .val (.int (0 : Int32)), .val (.int (3 : Int32)), .val (.ref t177), .val (.int (0 : Int32))] d_jdk_52m14_6 rfl rfl ?_
  refine g_iload D177 10 d_jdk_52m14_8 rfl rfl ?_
  refine g_iloadN D177 11 d_jdk_52m14_10 rfl rfl ?_
  refine g_icmpN D177 14 d_jdk_52m14_11 (by decide) rfl ?_
  refine g_aloadN D177 15 d_jdk_52m14_14 rfl rfl rfl ?_
  refine g_iload D177 17 d_jdk_52m14_15 rfl rfl ?_
  refine g_aloadN D177 18 d_jdk_52m14_17 rfl rfl rfl ?_
  refine g_iloadN D177 19 d_jdk_52m14_18 rfl rfl ?_
  refine g_caload D177 20 (V_b.ext E177) (v := (.int c0)) ⟨by decide, by decide⟩ rfl d_jdk_52m14_19 rfl ?_
  refine g_callS D177 23 (hw _ w_95) (hw _ w_96) (hw _ w_50) (hw _ w_97) (by decide) ((cPut_3_0 l Z a0 hw [] t177 k177 c0 (.int (0 : Int32)) (.int (0 : Int32)) (.int (0 : Int32)) (.int (0 : Int32)) (.int (0 : Int32)) (.int (0 : Int32)) h177 n0 (Nat.le_trans Z0 E177.1) (OLD.ext E177) SA SH SL V177 (Nat.le_trans Z0 g177)).back D177 0 (hw _ w_97) (hw _ w_50) (by decide) (by decide)) rfl [(.ref t177), (.int (0 : Int32)), (.int c0)] rfl (lenOf pd_2 rfl) rfl (Nat.le_of_eq rfl) (by decide) (by decide) (fun _ _ _ _ => trivial) d_jdk_52m14_20 rfl ?_
  intro v178 T178 h178 L178 q178 D178
  obtain ⟨rfl, N178, K178, V178⟩ := q178
  have NF178 := Fr.app NF177 N178
  show Go p e below _ (T178.setTop (mkF m 23 #[.val (.ref b), .val (.int (0 : Int32)), .val (.int (3 : Int32)), .val (.ref t177), .val (.int (0 : Int32))] []))
  refine g_iinc D178 26 (1 : Int32) #[.val (.ref b), .val (.int ((0 : Int32) + (1 : Int32))), .val (.int (3 : Int32)), .val (.ref t177), .val (.int (0 : Int32))] d_jdk_52m14_23 rfl rfl rfl rfl ?_
  rw [show ((0 : Int32) + (1 : Int32)) = (1 : Int32) from by decide]
  refine g_iinc D178 29 (1 : Int32) #[.val (.ref b), .val (.int (1 : Int32)), .val (.int (3 : Int32)), .val (.ref t177), .val (.int ((0 : Int32) + (1 : Int32)))] d_jdk_52m14_26 rfl rfl rfl rfl ?_
  rw [show ((0 : Int32) + (1 : Int32)) = (1 : Int32) from by decide]
  refine g_goto D178 8 d_jdk_52m14_29 (by decide) (by decide) ?_
  refine g_iload D178 10 d_jdk_52m14_8 rfl rfl ?_
  refine g_iloadN D178 11 d_jdk_52m14_10 rfl rfl ?_
  refine g_icmpN D178 14 d_jdk_52m14_11 (by decide) rfl ?_
  refine g_aloadN D178 15 d_jdk_52m14_14 rfl rfl rfl ?_
  refine g_iload D178 17 d_jdk_52m14_15 rfl rfl ?_
  refine g_aloadN D178 18 d_jdk_52m14_17 rfl rfl rfl ?_
  refine g_iloadN D178 19 d_jdk_52m14_18 rfl rfl ?_
  refine g_caload D178 20 ((V_b.ext E177).keep K178 (ninS (Nat.ne_of_lt (Nat.lt_of_lt_of_le V_b.lt g177)) nin0)) (v := (.int c1)) ⟨by decide, by decide⟩ rfl d_jdk_52m14_19 rfl ?_
  refine g_callS D178 23 (hw _ w_95) (hw _ w_96) (hw _ w_50) (hw _ w_97) (by decide) ((cPut_3_1 l Z a0 hw [] t177 k177 c1 (.int (StrChars.lo8 c0)) (.int (StrChars.hi8 c0)) (.int (0 : Int32)) (.int (0 : Int32)) (.int (0 : Int32)) (.int (0 : Int32)) h178 n0 (Nat.le_trans (Nat.le_trans Z0 E177.1) K178.1) ((OLD.ext E177).keep K178 (allS (Nat.le_trans Z0 g177) all0)) SA SH SL V178 (Nat.le_trans Z0 g177)).back D178 0 (hw _ w_97) (hw _ w_50) (by decide) (by decide)) rfl [(.ref t177), (.int (1 : Int32)), (.int c1)] rfl (lenOf pd_2 rfl) rfl (Nat.le_of_eq rfl) (by decide) (by decide) (fun _ _ _ _ => trivial) d_jdk_52m14_20 rfl ?_
  intro v179 T179 h179 L179 q179 D179
  obtain ⟨rfl, N179, K179, V179⟩ := q179
  have NF179 := Fr.app NF178 N179
  show Go p e below _ (T179.setTop (mkF m 23 #[.val (.ref b), .val (.int (1 : Int32)), .val (.int (3 : Int32)), .val (.ref t177), .val (.int (1 : Int32))] []))
  refine g_iinc D179 26 (1 : Int32) #[.val (.ref b), .val (.int ((1 : Int32) + (1 : Int32))), .val (.int (3 : Int32)), .val (.ref t177), .val (.int (1 : Int32))] d_jdk_52m14_23 rfl rfl rfl rfl ?_
  rw [show ((1 : Int32) + (1 : Int32)) = (2 : Int32) from by decide]
  refine g_iinc D179 29 (1 : Int32) #[.val (.ref b), .val (.int (2 : Int32)), .val (.int (3 : Int32)), .val (.ref t177), .val (.int ((1 : Int32) + (1 : Int32)))] d_jdk_52m14_26 rfl rfl rfl rfl ?_
  rw [show ((1 : Int32) + (1 : Int32)) = (2 : Int32) from by decide]
  refine g_goto D179 8 d_jdk_52m14_29 (by decide) (by decide) ?_
  refine g_iload D179 10 d_jdk_52m14_8 rfl rfl ?_
  refine g_iloadN D179 11 d_jdk_52m14_10 rfl rfl ?_
  refine g_icmpN D179 14 d_jdk_52m14_11 (by decide) rfl ?_
  refine g_aloadN D179 15 d_jdk_52m14_14 rfl rfl rfl ?_
  refine g_iload D179 17 d_jdk_52m14_15 rfl rfl ?_
  refine g_aloadN D179 18 d_jdk_52m14_17 rfl rfl rfl ?_
  refine g_iloadN D179 19 d_jdk_52m14_18 rfl rfl ?_
  refine g_caload D179 20 (((V_b.ext E177).keep K178 (ninS (Nat.ne_of_lt (Nat.lt_of_lt_of_le V_b.lt g177)) nin0)).keep K179 (ninS (Nat.ne_of_lt (Nat.lt_of_lt_of_le V_b.lt g177)) nin0)) (v := (.int c2)) ⟨by decide, by decide⟩ rfl d_jdk_52m14_19 rfl ?_
  refine g_callS D179 23 (hw _ w_95) (hw _ w_96) (hw _ w_50) (hw _ w_97) (by decide) ((cPut_3_2 l Z a0 hw [] t177 k177 c2 (.int (StrChars.lo8 c0)) (.int (StrChars.hi8 c0)) (.int (StrChars.lo8 c1)) (.int (StrChars.hi8 c1)) (.int (0 : Int32)) (.int (0 : Int32)) h179 n0 (Nat.le_trans (Nat.le_trans (Nat.le_trans Z0 E177.1) K178.1) K179.1) (((OLD.ext E177).keep K178 (allS (Nat.le_trans Z0 g177) all0)).keep K179 (allS (Nat.le_trans Z0 g177) all0)) SA SH SL V179 (Nat.le_trans Z0 g177)).back D179 0 (hw _ w_97) (hw _ w_50) (by decide) (by decide)) rfl [(.ref t177), (.int (2 : Int32)), (.int c2)] rfl (lenOf pd_2 rfl) rfl (Nat.le_of_eq rfl) (by decide) (by decide) (fun _ _ _ _ => trivial) d_jdk_52m14_20 rfl ?_
  intro v180 T180 h180 L180 q180 D180
  obtain ⟨rfl, N180, K180, V180⟩ := q180
  have NF180 := Fr.app NF179 N180
  show Go p e below _ (T180.setTop (mkF m 23 #[.val (.ref b), .val (.int (2 : Int32)), .val (.int (3 : Int32)), .val (.ref t177), .val (.int (2 : Int32))] []))
  refine g_iinc D180 26 (1 : Int32) #[.val (.ref b), .val (.int ((2 : Int32) + (1 : Int32))), .val (.int (3 : Int32)), .val (.ref t177), .val (.int (2 : Int32))] d_jdk_52m14_23 rfl rfl rfl rfl ?_
  rw [show ((2 : Int32) + (1 : Int32)) = (3 : Int32) from by decide]
  refine g_iinc D180 29 (1 : Int32) #[.val (.ref b), .val (.int (3 : Int32)), .val (.int (3 : Int32)), .val (.ref t177), .val (.int ((2 : Int32) + (1 : Int32)))] d_jdk_52m14_26 rfl rfl rfl rfl ?_
  rw [show ((2 : Int32) + (1 : Int32)) = (3 : Int32) from by decide]
  refine g_goto D180 8 d_jdk_52m14_29 (by decide) (by decide) ?_
  refine g_iload D180 10 d_jdk_52m14_8 rfl rfl ?_
  refine g_iloadN D180 11 d_jdk_52m14_10 rfl rfl ?_
  refine g_icmpY D180 32 d_jdk_52m14_11 (by decide) (by decide) (by decide) ?_
  refine g_aloadN D180 33 d_jdk_52m14_32 rfl rfl rfl ?_
  exact r_A D180 hret rfl rfl hlk d_jdk_52m14_33 ⟨t177, k177, rfl, (Nat.le_trans (Nat.le_refl _) g177), NF180, Keep.toExt (((((Keep.refl _ []).ext E177).trans K178 (allS (Or.inr (Nat.le_trans (Nat.le_refl _) g177)) all0)).trans K179 (allS (Or.inr (Nat.le_trans (Nat.le_refl _) g177)) all0)).trans K180 (allS (Or.inr (Nat.le_trans (Nat.le_refl _) g177)) all0)), V180⟩ (by decide) (by decide)
def Q_cC5_3_0 (Z : State) (b d : Addr) (kc kd : ClassId) (c0 c1 c2 : Int32) (h0 : Heap) (n0 : Nat) : Option Value → Heap → List Loc → Prop := (fun v h L => v = some (.int (0 : Int32)) ∧ Fr n0 L ∧ Keep h0 h [d] ∧ Arv Z h d kd .byte (3 : Int32) [(.int (0 : Int32)), (.int (0 : Int32)), (.int (0 : Int32))] (.int (0 : Int32)))
set_option maxRecDepth 65536 in
set_option maxHeartbeats 40000000 in
theorem cC5_3_0 (l : Launch) (Z : State) (a0 : Array Value) (hw : ∀ d ∈ tables_1, d.before a0 Z = true) (ws : List Jvm.Cond) (b d : Addr) (kc kd : ClassId) (c0 c1 c2 : Int32) (h0 : Heap) (n0 : Nat) (Z0 : n0 ≤ h0.size) (V_b : Arv Z h0 b kc .char (3 : Int32) [(.int c0), (.int c1), (.int c2)] (.int (0 : Int32))) (V_d : Arv Z h0 d kd .byte (3 : Int32) [(.int (0 : Int32)), (.int (0 : Int32)), (.int (0 : Int32))] (.int (0 : Int32))) (gd : n0 ≤ d) (nbd : b ≠ d) (q0 : (255 : Int32) < c0) :
    Con l (⟨"java/lang/StringUTF16", "compress", "([CI[BII)I"⟩ : MethodName) jdk_52_method_21_code 7 (some .int) ws ({ frames := 0, cells := 0, slots := 0, locals := 0 } : Room) Z #[(.ref b), (.int (0 : Int32)), (.ref d), (.int (0 : Int32)), (.int (3 : Int32))] h0 (Q_cC5_3_0 Z b d kc kd c0 c1 c2 h0 n0) 0 0 := by
  refine enter (plainFor_of_name pn_0) ?_
  intro p e s m below meth c s₁ hnm hret hlk D0
  rw [ef_cC5_3_0 m b d]
  refine g_iconst D0 1 (0 : Int32) d_jdk_52m21_0 rfl rfl ?_
  refine g_istore D0 3 #[.val (.ref b), .val (.int (0 : Int32)), .val (.ref d), .val (.int (0 : Int32)), .val (.int (3 : Int32)), .val (.int (0 : Int32)), .unset] d_jdk_52m21_1 rfl rfl ?_
  refine g_iload D0 5 d_jdk_52m21_3 rfl rfl ?_
  refine g_iload D0 7 d_jdk_52m21_5 rfl rfl ?_
  refine g_icmpN D0 10 d_jdk_52m21_7 (by decide) rfl ?_
  refine g_aloadN D0 11 d_jdk_52m21_10 rfl rfl rfl ?_
  refine g_iloadN D0 12 d_jdk_52m21_11 rfl rfl ?_
  refine g_caload D0 13 V_b (v := (.int c0)) ⟨by decide, by decide⟩ rfl d_jdk_52m21_12 rfl ?_
  refine g_istore D0 15 #[.val (.ref b), .val (.int (0 : Int32)), .val (.ref d), .val (.int (0 : Int32)), .val (.int (3 : Int32)), .val (.int (0 : Int32)), .val (.int c0)] d_jdk_52m21_13 rfl rfl ?_
  refine g_iload D0 17 d_jdk_52m21_15 rfl rfl ?_
  refine g_sipush D0 20 (255 : Int32) d_jdk_52m21_17 rfl rfl ?_
  refine g_icmpN D0 23 d_jdk_52m21_20 (tlt q0).2.2.2 rfl ?_
  refine g_iload D0 25 d_jdk_52m21_23 rfl rfl ?_
  exact r_I D0 hret hlk d_jdk_52m21_25 ⟨rfl, (Fr.nil n0), (Keep.refl _ [d]), V_d⟩ (by decide) (by decide)
def Q_cC5_3_1 (Z : State) (b d : Addr) (kc kd : ClassId) (c0 c1 c2 : Int32) (h0 : Heap) (n0 : Nat) : Option Value → Heap → List Loc → Prop := (fun v h L => v = some (.int (1 : Int32)) ∧ Fr n0 L ∧ Keep h0 h [d] ∧ Arv Z h d kd .byte (3 : Int32) [(.int (StrChars.lo8 c0)), (.int (0 : Int32)), (.int (0 : Int32))] (.int (0 : Int32)))
set_option maxRecDepth 65536 in
set_option maxHeartbeats 40000000 in
theorem cC5_3_1 (l : Launch) (Z : State) (a0 : Array Value) (hw : ∀ d ∈ tables_1, d.before a0 Z = true) (ws : List Jvm.Cond) (b d : Addr) (kc kd : ClassId) (c0 c1 c2 : Int32) (h0 : Heap) (n0 : Nat) (Z0 : n0 ≤ h0.size) (V_b : Arv Z h0 b kc .char (3 : Int32) [(.int c0), (.int c1), (.int c2)] (.int (0 : Int32))) (V_d : Arv Z h0 d kd .byte (3 : Int32) [(.int (0 : Int32)), (.int (0 : Int32)), (.int (0 : Int32))] (.int (0 : Int32))) (gd : n0 ≤ d) (nbd : b ≠ d) (q0 : ¬ (255 : Int32) < c0) (q1 : (255 : Int32) < c1) :
    Con l (⟨"java/lang/StringUTF16", "compress", "([CI[BII)I"⟩ : MethodName) jdk_52_method_21_code 7 (some .int) ws ({ frames := 0, cells := 0, slots := 0, locals := 0 } : Room) Z #[(.ref b), (.int (0 : Int32)), (.ref d), (.int (0 : Int32)), (.int (3 : Int32))] h0 (Q_cC5_3_1 Z b d kc kd c0 c1 c2 h0 n0) 0 0 := by
  refine enter (plainFor_of_name pn_0) ?_
  intro p e s m below meth c s₁ hnm hret hlk D0
  rw [ef_cC5_3_1 m b d]
  refine g_iconst D0 1 (0 : Int32) d_jdk_52m21_0 rfl rfl ?_
  refine g_istore D0 3 #[.val (.ref b), .val (.int (0 : Int32)), .val (.ref d), .val (.int (0 : Int32)), .val (.int (3 : Int32)), .val (.int (0 : Int32)), .unset] d_jdk_52m21_1 rfl rfl ?_
  refine g_iload D0 5 d_jdk_52m21_3 rfl rfl ?_
  refine g_iload D0 7 d_jdk_52m21_5 rfl rfl ?_
  refine g_icmpN D0 10 d_jdk_52m21_7 (by decide) rfl ?_
  refine g_aloadN D0 11 d_jdk_52m21_10 rfl rfl rfl ?_
  refine g_iloadN D0 12 d_jdk_52m21_11 rfl rfl ?_
  refine g_caload D0 13 V_b (v := (.int c0)) ⟨by decide, by decide⟩ rfl d_jdk_52m21_12 rfl ?_
  refine g_istore D0 15 #[.val (.ref b), .val (.int (0 : Int32)), .val (.ref d), .val (.int (0 : Int32)), .val (.int (3 : Int32)), .val (.int (0 : Int32)), .val (.int c0)] d_jdk_52m21_13 rfl rfl ?_
  refine g_iload D0 17 d_jdk_52m21_15 rfl rfl ?_
  refine g_sipush D0 20 (255 : Int32) d_jdk_52m21_17 rfl rfl ?_
  refine g_icmpY D0 26 d_jdk_52m21_20 (flt q0).2.2.2 (by decide) (by decide) ?_
  refine g_aloadN D0 27 d_jdk_52m21_26 rfl rfl rfl ?_
  refine g_iloadN D0 28 d_jdk_52m21_27 rfl rfl ?_
  refine g_iload D0 30 d_jdk_52m21_28 rfl rfl ?_
  refine g_i2b D0 31 d_jdk_52m21_30 rfl ?_
  refine g_bastore D0 32 V_d ⟨by decide, by decide⟩ 0 (by decide) (Nat.le_of_ble_eq_true rfl) (fun _ _ => trivial) d_jdk_52m21_31 rfl ?_
  intro T181 h181 W181 V181 D181
  rw [nb_b c0] at V181
  replace V181 : Arv Z h181 d kd .byte (3 : Int32) [(.int (StrChars.lo8 c0)), (.int (0 : Int32)), (.int (0 : Int32))] (.int (0 : Int32)) := V181
  have N181 := Fr.snoc D181.st (Fr.nil n0) gd
  refine g_iinc D181 35 (1 : Int32) #[.val (.ref b), .val (.int ((0 : Int32) + (1 : Int32))), .val (.ref d), .val (.int (0 : Int32)), .val (.int (3 : Int32)), .val (.int (0 : Int32)), .val (.int c0)] d_jdk_52m21_32 rfl rfl rfl rfl ?_
  rw [show ((0 : Int32) + (1 : Int32)) = (1 : Int32) from by decide]
  refine g_iinc D181 38 (1 : Int32) #[.val (.ref b), .val (.int (1 : Int32)), .val (.ref d), .val (.int ((0 : Int32) + (1 : Int32))), .val (.int (3 : Int32)), .val (.int (0 : Int32)), .val (.int c0)] d_jdk_52m21_35 rfl rfl rfl rfl ?_
  rw [show ((0 : Int32) + (1 : Int32)) = (1 : Int32) from by decide]
  refine g_iinc D181 41 (1 : Int32) #[.val (.ref b), .val (.int (1 : Int32)), .val (.ref d), .val (.int (1 : Int32)), .val (.int (3 : Int32)), .val (.int ((0 : Int32) + (1 : Int32))), .val (.int c0)] d_jdk_52m21_38 rfl rfl rfl rfl ?_
  rw [show ((0 : Int32) + (1 : Int32)) = (1 : Int32) from by decide]
  refine g_goto D181 3 d_jdk_52m21_41 (by decide) (by decide) ?_
  refine g_iload D181 5 d_jdk_52m21_3 rfl rfl ?_
  refine g_iload D181 7 d_jdk_52m21_5 rfl rfl ?_
  refine g_icmpN D181 10 d_jdk_52m21_7 (by decide) rfl ?_
  refine g_aloadN D181 11 d_jdk_52m21_10 rfl rfl rfl ?_
  refine g_iloadN D181 12 d_jdk_52m21_11 rfl rfl ?_
  refine g_caload D181 13 (V_b.other W181 nbd) (v := (.int c1)) ⟨by decide, by decide⟩ rfl d_jdk_52m21_12 rfl ?_
  refine g_istore D181 15 #[.val (.ref b), .val (.int (1 : Int32)), .val (.ref d), .val (.int (1 : Int32)), .val (.int (3 : Int32)), .val (.int (1 : Int32)), .val (.int c1)] d_jdk_52m21_13 rfl rfl ?_
  refine g_iload D181 17 d_jdk_52m21_15 rfl rfl ?_
  refine g_sipush D181 20 (255 : Int32) d_jdk_52m21_17 rfl rfl ?_
  refine g_icmpN D181 23 d_jdk_52m21_20 (tlt q1).2.2.2 rfl ?_
  refine g_iload D181 25 d_jdk_52m21_23 rfl rfl ?_
  exact r_I D181 hret hlk d_jdk_52m21_25 ⟨rfl, N181, ((Keep.refl _ [d]).wr W181 (Or.inl (List.mem_of_getElem? (i := 0) rfl))), V181⟩ (by decide) (by decide)
def Q_cC5_3_2 (Z : State) (b d : Addr) (kc kd : ClassId) (c0 c1 c2 : Int32) (h0 : Heap) (n0 : Nat) : Option Value → Heap → List Loc → Prop := (fun v h L => v = some (.int (2 : Int32)) ∧ Fr n0 L ∧ Keep h0 h [d] ∧ Arv Z h d kd .byte (3 : Int32) [(.int (StrChars.lo8 c0)), (.int (StrChars.lo8 c1)), (.int (0 : Int32))] (.int (0 : Int32)))
set_option maxRecDepth 65536 in
set_option maxHeartbeats 40000000 in
theorem cC5_3_2 (l : Launch) (Z : State) (a0 : Array Value) (hw : ∀ d ∈ tables_1, d.before a0 Z = true) (ws : List Jvm.Cond) (b d : Addr) (kc kd : ClassId) (c0 c1 c2 : Int32) (h0 : Heap) (n0 : Nat) (Z0 : n0 ≤ h0.size) (V_b : Arv Z h0 b kc .char (3 : Int32) [(.int c0), (.int c1), (.int c2)] (.int (0 : Int32))) (V_d : Arv Z h0 d kd .byte (3 : Int32) [(.int (0 : Int32)), (.int (0 : Int32)), (.int (0 : Int32))] (.int (0 : Int32))) (gd : n0 ≤ d) (nbd : b ≠ d) (q0 : ¬ (255 : Int32) < c0) (q1 : ¬ (255 : Int32) < c1) (q2 : (255 : Int32) < c2) :
    Con l (⟨"java/lang/StringUTF16", "compress", "([CI[BII)I"⟩ : MethodName) jdk_52_method_21_code 7 (some .int) ws ({ frames := 0, cells := 0, slots := 0, locals := 0 } : Room) Z #[(.ref b), (.int (0 : Int32)), (.ref d), (.int (0 : Int32)), (.int (3 : Int32))] h0 (Q_cC5_3_2 Z b d kc kd c0 c1 c2 h0 n0) 0 0 := by
  refine enter (plainFor_of_name pn_0) ?_
  intro p e s m below meth c s₁ hnm hret hlk D0
  rw [ef_cC5_3_2 m b d]
  refine g_iconst D0 1 (0 : Int32) d_jdk_52m21_0 rfl rfl ?_
  refine g_istore D0 3 #[.val (.ref b), .val (.int (0 : Int32)), .val (.ref d), .val (.int (0 : Int32)), .val (.int (3 : Int32)), .val (.int (0 : Int32)), .unset] d_jdk_52m21_1 rfl rfl ?_
  refine g_iload D0 5 d_jdk_52m21_3 rfl rfl ?_
  refine g_iload D0 7 d_jdk_52m21_5 rfl rfl ?_
  refine g_icmpN D0 10 d_jdk_52m21_7 (by decide) rfl ?_
  refine g_aloadN D0 11 d_jdk_52m21_10 rfl rfl rfl ?_
  refine g_iloadN D0 12 d_jdk_52m21_11 rfl rfl ?_
  refine g_caload D0 13 V_b (v := (.int c0)) ⟨by decide, by decide⟩ rfl d_jdk_52m21_12 rfl ?_
  refine g_istore D0 15 #[.val (.ref b), .val (.int (0 : Int32)), .val (.ref d), .val (.int (0 : Int32)), .val (.int (3 : Int32)), .val (.int (0 : Int32)), .val (.int c0)] d_jdk_52m21_13 rfl rfl ?_
  refine g_iload D0 17 d_jdk_52m21_15 rfl rfl ?_
  refine g_sipush D0 20 (255 : Int32) d_jdk_52m21_17 rfl rfl ?_
  refine g_icmpY D0 26 d_jdk_52m21_20 (flt q0).2.2.2 (by decide) (by decide) ?_
  refine g_aloadN D0 27 d_jdk_52m21_26 rfl rfl rfl ?_
  refine g_iloadN D0 28 d_jdk_52m21_27 rfl rfl ?_
  refine g_iload D0 30 d_jdk_52m21_28 rfl rfl ?_
  refine g_i2b D0 31 d_jdk_52m21_30 rfl ?_
  refine g_bastore D0 32 V_d ⟨by decide, by decide⟩ 0 (by decide) (Nat.le_of_ble_eq_true rfl) (fun _ _ => trivial) d_jdk_52m21_31 rfl ?_
  intro T182 h182 W182 V182 D182
  rw [nb_b c0] at V182
  replace V182 : Arv Z h182 d kd .byte (3 : Int32) [(.int (StrChars.lo8 c0)), (.int (0 : Int32)), (.int (0 : Int32))] (.int (0 : Int32)) := V182
  have N182 := Fr.snoc D182.st (Fr.nil n0) gd
  refine g_iinc D182 35 (1 : Int32) #[.val (.ref b), .val (.int ((0 : Int32) + (1 : Int32))), .val (.ref d), .val (.int (0 : Int32)), .val (.int (3 : Int32)), .val (.int (0 : Int32)), .val (.int c0)] d_jdk_52m21_32 rfl rfl rfl rfl ?_
  rw [show ((0 : Int32) + (1 : Int32)) = (1 : Int32) from by decide]
  refine g_iinc D182 38 (1 : Int32) #[.val (.ref b), .val (.int (1 : Int32)), .val (.ref d), .val (.int ((0 : Int32) + (1 : Int32))), .val (.int (3 : Int32)), .val (.int (0 : Int32)), .val (.int c0)] d_jdk_52m21_35 rfl rfl rfl rfl ?_
  rw [show ((0 : Int32) + (1 : Int32)) = (1 : Int32) from by decide]
  refine g_iinc D182 41 (1 : Int32) #[.val (.ref b), .val (.int (1 : Int32)), .val (.ref d), .val (.int (1 : Int32)), .val (.int (3 : Int32)), .val (.int ((0 : Int32) + (1 : Int32))), .val (.int c0)] d_jdk_52m21_38 rfl rfl rfl rfl ?_
  rw [show ((0 : Int32) + (1 : Int32)) = (1 : Int32) from by decide]
  refine g_goto D182 3 d_jdk_52m21_41 (by decide) (by decide) ?_
  refine g_iload D182 5 d_jdk_52m21_3 rfl rfl ?_
  refine g_iload D182 7 d_jdk_52m21_5 rfl rfl ?_
  refine g_icmpN D182 10 d_jdk_52m21_7 (by decide) rfl ?_
  refine g_aloadN D182 11 d_jdk_52m21_10 rfl rfl rfl ?_
  refine g_iloadN D182 12 d_jdk_52m21_11 rfl rfl ?_
  refine g_caload D182 13 (V_b.other W182 nbd) (v := (.int c1)) ⟨by decide, by decide⟩ rfl d_jdk_52m21_12 rfl ?_
  refine g_istore D182 15 #[.val (.ref b), .val (.int (1 : Int32)), .val (.ref d), .val (.int (1 : Int32)), .val (.int (3 : Int32)), .val (.int (1 : Int32)), .val (.int c1)] d_jdk_52m21_13 rfl rfl ?_
  refine g_iload D182 17 d_jdk_52m21_15 rfl rfl ?_
  refine g_sipush D182 20 (255 : Int32) d_jdk_52m21_17 rfl rfl ?_
  refine g_icmpY D182 26 d_jdk_52m21_20 (flt q1).2.2.2 (by decide) (by decide) ?_
  refine g_aloadN D182 27 d_jdk_52m21_26 rfl rfl rfl ?_
  refine g_iloadN D182 28 d_jdk_52m21_27 rfl rfl ?_
  refine g_iload D182 30 d_jdk_52m21_28 rfl rfl ?_
  refine g_i2b D182 31 d_jdk_52m21_30 rfl ?_
  refine g_bastore D182 32 V182 ⟨by decide, by decide⟩ 1 (by decide) (Nat.le_of_ble_eq_true rfl) (fun _ _ => trivial) d_jdk_52m21_31 rfl ?_
  intro T183 h183 W183 V183 D183
  rw [nb_b c1] at V183
  replace V183 : Arv Z h183 d kd .byte (3 : Int32) [(.int (StrChars.lo8 c0)), (.int (StrChars.lo8 c1)), (.int (0 : Int32))] (.int (0 : Int32)) := V183
  have N183 := Fr.snoc D183.st N182 gd
  refine g_iinc D183 35 (1 : Int32) #[.val (.ref b), .val (.int ((1 : Int32) + (1 : Int32))), .val (.ref d), .val (.int (1 : Int32)), .val (.int (3 : Int32)), .val (.int (1 : Int32)), .val (.int c1)] d_jdk_52m21_32 rfl rfl rfl rfl ?_
  rw [show ((1 : Int32) + (1 : Int32)) = (2 : Int32) from by decide]
  refine g_iinc D183 38 (1 : Int32) #[.val (.ref b), .val (.int (2 : Int32)), .val (.ref d), .val (.int ((1 : Int32) + (1 : Int32))), .val (.int (3 : Int32)), .val (.int (1 : Int32)), .val (.int c1)] d_jdk_52m21_35 rfl rfl rfl rfl ?_
  rw [show ((1 : Int32) + (1 : Int32)) = (2 : Int32) from by decide]
  refine g_iinc D183 41 (1 : Int32) #[.val (.ref b), .val (.int (2 : Int32)), .val (.ref d), .val (.int (2 : Int32)), .val (.int (3 : Int32)), .val (.int ((1 : Int32) + (1 : Int32))), .val (.int c1)] d_jdk_52m21_38 rfl rfl rfl rfl ?_
  rw [show ((1 : Int32) + (1 : Int32)) = (2 : Int32) from by decide]
  refine g_goto D183 3 d_jdk_52m21_41 (by decide) (by decide) ?_
  refine g_iload D183 5 d_jdk_52m21_3 rfl rfl ?_
  refine g_iload D183 7 d_jdk_52m21_5 rfl rfl ?_
  refine g_icmpN D183 10 d_jdk_52m21_7 (by decide) rfl ?_
  refine g_aloadN D183 11 d_jdk_52m21_10 rfl rfl rfl ?_
  refine g_iloadN D183 12 d_jdk_52m21_11 rfl rfl ?_
  refine g_caload D183 13 ((V_b.other W182 nbd).other W183 nbd) (v := (.int c2)) ⟨by decide, by decide⟩ rfl d_jdk_52m21_12 rfl ?_
  refine g_istore D183 15 #[.val (.ref b), .val (.int (2 : Int32)), .val (.ref d), .val (.int (2 : Int32)), .val (.int (3 : Int32)), .val (.int (2 : Int32)), .val (.int c2)] d_jdk_52m21_13 rfl rfl ?_
  refine g_iload D183 17 d_jdk_52m21_15 rfl rfl ?_
  refine g_sipush D183 20 (255 : Int32) d_jdk_52m21_17 rfl rfl ?_
  refine g_icmpN D183 23 d_jdk_52m21_20 (tlt q2).2.2.2 rfl ?_
  refine g_iload D183 25 d_jdk_52m21_23 rfl rfl ?_
  exact r_I D183 hret hlk d_jdk_52m21_25 ⟨rfl, N183, (((Keep.refl _ [d]).wr W182 (Or.inl (List.mem_of_getElem? (i := 0) rfl))).wr W183 (Or.inl (List.mem_of_getElem? (i := 0) rfl))), V183⟩ (by decide) (by decide)
def Q_cC5_3_3 (Z : State) (b d : Addr) (kc kd : ClassId) (c0 c1 c2 : Int32) (h0 : Heap) (n0 : Nat) : Option Value → Heap → List Loc → Prop := (fun v h L => v = some (.int (3 : Int32)) ∧ Fr n0 L ∧ Keep h0 h [d] ∧ Arv Z h d kd .byte (3 : Int32) [(.int (StrChars.lo8 c0)), (.int (StrChars.lo8 c1)), (.int (StrChars.lo8 c2))] (.int (0 : Int32)))
set_option maxRecDepth 65536 in
set_option maxHeartbeats 40000000 in
theorem cC5_3_3 (l : Launch) (Z : State) (a0 : Array Value) (hw : ∀ d ∈ tables_1, d.before a0 Z = true) (ws : List Jvm.Cond) (b d : Addr) (kc kd : ClassId) (c0 c1 c2 : Int32) (h0 : Heap) (n0 : Nat) (Z0 : n0 ≤ h0.size) (V_b : Arv Z h0 b kc .char (3 : Int32) [(.int c0), (.int c1), (.int c2)] (.int (0 : Int32))) (V_d : Arv Z h0 d kd .byte (3 : Int32) [(.int (0 : Int32)), (.int (0 : Int32)), (.int (0 : Int32))] (.int (0 : Int32))) (gd : n0 ≤ d) (nbd : b ≠ d) (q0 : ¬ (255 : Int32) < c0) (q1 : ¬ (255 : Int32) < c1) (q2 : ¬ (255 : Int32) < c2) :
    Con l (⟨"java/lang/StringUTF16", "compress", "([CI[BII)I"⟩ : MethodName) jdk_52_method_21_code 7 (some .int) ws ({ frames := 0, cells := 0, slots := 0, locals := 0 } : Room) Z #[(.ref b), (.int (0 : Int32)), (.ref d), (.int (0 : Int32)), (.int (3 : Int32))] h0 (Q_cC5_3_3 Z b d kc kd c0 c1 c2 h0 n0) 0 0 := by
  refine enter (plainFor_of_name pn_0) ?_
  intro p e s m below meth c s₁ hnm hret hlk D0
  rw [ef_cC5_3_3 m b d]
  refine g_iconst D0 1 (0 : Int32) d_jdk_52m21_0 rfl rfl ?_
  refine g_istore D0 3 #[.val (.ref b), .val (.int (0 : Int32)), .val (.ref d), .val (.int (0 : Int32)), .val (.int (3 : Int32)), .val (.int (0 : Int32)), .unset] d_jdk_52m21_1 rfl rfl ?_
  refine g_iload D0 5 d_jdk_52m21_3 rfl rfl ?_
  refine g_iload D0 7 d_jdk_52m21_5 rfl rfl ?_
  refine g_icmpN D0 10 d_jdk_52m21_7 (by decide) rfl ?_
  refine g_aloadN D0 11 d_jdk_52m21_10 rfl rfl rfl ?_
  refine g_iloadN D0 12 d_jdk_52m21_11 rfl rfl ?_
  refine g_caload D0 13 V_b (v := (.int c0)) ⟨by decide, by decide⟩ rfl d_jdk_52m21_12 rfl ?_
  refine g_istore D0 15 #[.val (.ref b), .val (.int (0 : Int32)), .val (.ref d), .val (.int (0 : Int32)), .val (.int (3 : Int32)), .val (.int (0 : Int32)), .val (.int c0)] d_jdk_52m21_13 rfl rfl ?_
  refine g_iload D0 17 d_jdk_52m21_15 rfl rfl ?_
  refine g_sipush D0 20 (255 : Int32) d_jdk_52m21_17 rfl rfl ?_
  refine g_icmpY D0 26 d_jdk_52m21_20 (flt q0).2.2.2 (by decide) (by decide) ?_
  refine g_aloadN D0 27 d_jdk_52m21_26 rfl rfl rfl ?_
  refine g_iloadN D0 28 d_jdk_52m21_27 rfl rfl ?_
  refine g_iload D0 30 d_jdk_52m21_28 rfl rfl ?_
  refine g_i2b D0 31 d_jdk_52m21_30 rfl ?_
  refine g_bastore D0 32 V_d ⟨by decide, by decide⟩ 0 (by decide) (Nat.le_of_ble_eq_true rfl) (fun _ _ => trivial) d_jdk_52m21_31 rfl ?_
  intro T184 h184 W184 V184 D184
  rw [nb_b c0] at V184
  replace V184 : Arv Z h184 d kd .byte (3 : Int32) [(.int (StrChars.lo8 c0)), (.int (0 : Int32)), (.int (0 : Int32))] (.int (0 : Int32)) := V184
  have N184 := Fr.snoc D184.st (Fr.nil n0) gd
  refine g_iinc D184 35 (1 : Int32) #[.val (.ref b), .val (.int ((0 : Int32) + (1 : Int32))), .val (.ref d), .val (.int (0 : Int32)), .val (.int (3 : Int32)), .val (.int (0 : Int32)), .val (.int c0)] d_jdk_52m21_32 rfl rfl rfl rfl ?_
  rw [show ((0 : Int32) + (1 : Int32)) = (1 : Int32) from by decide]
  refine g_iinc D184 38 (1 : Int32) #[.val (.ref b), .val (.int (1 : Int32)), .val (.ref d), .val (.int ((0 : Int32) + (1 : Int32))), .val (.int (3 : Int32)), .val (.int (0 : Int32)), .val (.int c0)] d_jdk_52m21_35 rfl rfl rfl rfl ?_
  rw [show ((0 : Int32) + (1 : Int32)) = (1 : Int32) from by decide]
  refine g_iinc D184 41 (1 : Int32) #[.val (.ref b), .val (.int (1 : Int32)), .val (.ref d), .val (.int (1 : Int32)), .val (.int (3 : Int32)), .val (.int ((0 : Int32) + (1 : Int32))), .val (.int c0)] d_jdk_52m21_38 rfl rfl rfl rfl ?_
  rw [show ((0 : Int32) + (1 : Int32)) = (1 : Int32) from by decide]
  refine g_goto D184 3 d_jdk_52m21_41 (by decide) (by decide) ?_
  refine g_iload D184 5 d_jdk_52m21_3 rfl rfl ?_
  refine g_iload D184 7 d_jdk_52m21_5 rfl rfl ?_
  refine g_icmpN D184 10 d_jdk_52m21_7 (by decide) rfl ?_
  refine g_aloadN D184 11 d_jdk_52m21_10 rfl rfl rfl ?_
  refine g_iloadN D184 12 d_jdk_52m21_11 rfl rfl ?_
  refine g_caload D184 13 (V_b.other W184 nbd) (v := (.int c1)) ⟨by decide, by decide⟩ rfl d_jdk_52m21_12 rfl ?_
  refine g_istore D184 15 #[.val (.ref b), .val (.int (1 : Int32)), .val (.ref d), .val (.int (1 : Int32)), .val (.int (3 : Int32)), .val (.int (1 : Int32)), .val (.int c1)] d_jdk_52m21_13 rfl rfl ?_
  refine g_iload D184 17 d_jdk_52m21_15 rfl rfl ?_
  refine g_sipush D184 20 (255 : Int32) d_jdk_52m21_17 rfl rfl ?_
  refine g_icmpY D184 26 d_jdk_52m21_20 (flt q1).2.2.2 (by decide) (by decide) ?_
  refine g_aloadN D184 27 d_jdk_52m21_26 rfl rfl rfl ?_
  refine g_iloadN D184 28 d_jdk_52m21_27 rfl rfl ?_
  refine g_iload D184 30 d_jdk_52m21_28 rfl rfl ?_
  refine g_i2b D184 31 d_jdk_52m21_30 rfl ?_
  refine g_bastore D184 32 V184 ⟨by decide, by decide⟩ 1 (by decide) (Nat.le_of_ble_eq_true rfl) (fun _ _ => trivial) d_jdk_52m21_31 rfl ?_
  intro T185 h185 W185 V185 D185
  rw [nb_b c1] at V185
  replace V185 : Arv Z h185 d kd .byte (3 : Int32) [(.int (StrChars.lo8 c0)), (.int (StrChars.lo8 c1)), (.int (0 : Int32))] (.int (0 : Int32)) := V185
  have N185 := Fr.snoc D185.st N184 gd
  refine g_iinc D185 35 (1 : Int32) #[.val (.ref b), .val (.int ((1 : Int32) + (1 : Int32))), .val (.ref d), .val (.int (1 : Int32)), .val (.int (3 : Int32)), .val (.int (1 : Int32)), .val (.int c1)] d_jdk_52m21_32 rfl rfl rfl rfl ?_
  rw [show ((1 : Int32) + (1 : Int32)) = (2 : Int32) from by decide]
  refine g_iinc D185 38 (1 : Int32) #[.val (.ref b), .val (.int (2 : Int32)), .val (.ref d), .val (.int ((1 : Int32) + (1 : Int32))), .val (.int (3 : Int32)), .val (.int (1 : Int32)), .val (.int c1)] d_jdk_52m21_35 rfl rfl rfl rfl ?_
  rw [show ((1 : Int32) + (1 : Int32)) = (2 : Int32) from by decide]
  refine g_iinc D185 41 (1 : Int32) #[.val (.ref b), .val (.int (2 : Int32)), .val (.ref d), .val (.int (2 : Int32)), .val (.int (3 : Int32)), .val (.int ((1 : Int32) + (1 : Int32))), .val (.int c1)] d_jdk_52m21_38 rfl rfl rfl rfl ?_
  rw [show ((1 : Int32) + (1 : Int32)) = (2 : Int32) from by decide]
  refine g_goto D185 3 d_jdk_52m21_41 (by decide) (by decide) ?_
  refine g_iload D185 5 d_jdk_52m21_3 rfl rfl ?_
  refine g_iload D185 7 d_jdk_52m21_5 rfl rfl ?_
  refine g_icmpN D185 10 d_jdk_52m21_7 (by decide) rfl ?_
  refine g_aloadN D185 11 d_jdk_52m21_10 rfl rfl rfl ?_
  refine g_iloadN D185 12 d_jdk_52m21_11 rfl rfl ?_
  refine g_caload D185 13 ((V_b.other W184 nbd).other W185 nbd) (v := (.int c2)) ⟨by decide, by decide⟩ rfl d_jdk_52m21_12 rfl ?_
  refine g_istore D185 15 #[.val (.ref b), .val (.int (2 : Int32)), .val (.ref d), .val (.int (2 : Int32)), .val (.int (3 : Int32)), .val (.int (2 : Int32)), .val (.int c2)] d_jdk_52m21_13 rfl rfl ?_
  refine g_iload D185 17 d_jdk_52m21_15 rfl rfl ?_
  refine g_sipush D185 20 (255 : Int32) d_jdk_52m21_17 rfl rfl ?_
  refine g_icmpY D185 26 d_jdk_52m21_20 (flt q2).2.2.2 (by decide) (by decide) ?_
  refine g_aloadN D185 27 d_jdk_52m21_26 rfl rfl rfl ?_
  refine g_iloadN D185 28 d_jdk_52m21_27 rfl rfl ?_
  refine g_iload D185 30 d_jdk_52m21_28 rfl rfl ?_
  refine g_i2b D185 31 d_jdk_52m21_30 rfl ?_
  refine g_bastore D185 32 V185 ⟨by decide, by decide⟩ 2 (by decide) (Nat.le_of_ble_eq_true rfl) (fun _ _ => trivial) d_jdk_52m21_31 rfl ?_
  intro T186 h186 W186 V186 D186
  rw [nb_b c2] at V186
  replace V186 : Arv Z h186 d kd .byte (3 : Int32) [(.int (StrChars.lo8 c0)), (.int (StrChars.lo8 c1)), (.int (StrChars.lo8 c2))] (.int (0 : Int32)) := V186
  have N186 := Fr.snoc D186.st N185 gd
  refine g_iinc D186 35 (1 : Int32) #[.val (.ref b), .val (.int ((2 : Int32) + (1 : Int32))), .val (.ref d), .val (.int (2 : Int32)), .val (.int (3 : Int32)), .val (.int (2 : Int32)), .val (.int c2)] d_jdk_52m21_32 rfl rfl rfl rfl ?_
  rw [show ((2 : Int32) + (1 : Int32)) = (3 : Int32) from by decide]
  refine g_iinc D186 38 (1 : Int32) #[.val (.ref b), .val (.int (3 : Int32)), .val (.ref d), .val (.int ((2 : Int32) + (1 : Int32))), .val (.int (3 : Int32)), .val (.int (2 : Int32)), .val (.int c2)] d_jdk_52m21_35 rfl rfl rfl rfl ?_
  rw [show ((2 : Int32) + (1 : Int32)) = (3 : Int32) from by decide]
  refine g_iinc D186 41 (1 : Int32) #[.val (.ref b), .val (.int (3 : Int32)), .val (.ref d), .val (.int (3 : Int32)), .val (.int (3 : Int32)), .val (.int ((2 : Int32) + (1 : Int32))), .val (.int c2)] d_jdk_52m21_38 rfl rfl rfl rfl ?_
  rw [show ((2 : Int32) + (1 : Int32)) = (3 : Int32) from by decide]
  refine g_goto D186 3 d_jdk_52m21_41 (by decide) (by decide) ?_
  refine g_iload D186 5 d_jdk_52m21_3 rfl rfl ?_
  refine g_iload D186 7 d_jdk_52m21_5 rfl rfl ?_
  refine g_icmpY D186 44 d_jdk_52m21_7 (by decide) (by decide) (by decide) ?_
  refine g_iload D186 46 d_jdk_52m21_44 rfl rfl ?_
  exact r_I D186 hret hlk d_jdk_52m21_46 ⟨rfl, N186, ((((Keep.refl _ [d]).wr W184 (Or.inl (List.mem_of_getElem? (i := 0) rfl))).wr W185 (Or.inl (List.mem_of_getElem? (i := 0) rfl))).wr W186 (Or.inl (List.mem_of_getElem? (i := 0) rfl))), V186⟩ (by decide) (by decide)
def Q_cC3_3 (Z : State) (b : Addr) (kc : ClassId) (c0 c1 c2 : Int32) (h0 : Heap) (n0 : Nat) : Option Value → Heap → List Loc → Prop := (fun v h L => ∃ t k cd N2 vs, v = some (.ref t) ∧ h0.size ≤ t ∧ Fr n0 L ∧ Ext h0 h ∧ Arv Z h t k .byte N2 vs (.int (0 : Int32)) ∧ StrChars.Road.CodA [c0, c1, c2] cd N2 vs)
set_option maxRecDepth 65536 in
set_option maxHeartbeats 40000000 in
theorem cC3_3 (l : Launch) (Z : State) (a0 : Array Value) (hw : ∀ d ∈ tables_1, d.before a0 Z = true) (ws : List Jvm.Cond) (b : Addr) (kc : ClassId) (c0 c1 c2 : Int32) (h0 : Heap) (n0 : Nat) (Z0 : n0 ≤ h0.size) (OLD : Old Z n0 h0) (SA : Sta Z Z.heap "java/lang/StringUTF16" "$assertionsDisabled" "Z" (.int (1 : Int32))) (SH : Sta Z Z.heap "java/lang/StringUTF16" "HI_BYTE_SHIFT" "I" (.int (0 : Int32))) (SL : Sta Z Z.heap "java/lang/StringUTF16" "LO_BYTE_SHIFT" "I" (.int (8 : Int32))) (V_b : Arv Z h0 b kc .char (3 : Int32) [(.int c0), (.int c1), (.int c2)] (.int (0 : Int32))) (H0 : C16 c0) (H1 : C16 c1) (H2 : C16 c2) :
    Con l (⟨"java/lang/StringUTF16", "compress", "([CII)[B"⟩ : MethodName) jdk_52_method_16_code 6 (some (.array .byte)) ws ({ frames := 3, cells := 2, slots := 9, locals := 40 } : Room) Z #[(.ref b), (.int (0 : Int32)), (.int (3 : Int32))] h0 (Q_cC3_3 Z b kc c0 c1 c2 h0 n0) 2 9 := by
  refine enter (plainFor_of_name pn_0) ?_
  intro p e s m below meth c s₁ hnm hret hlk D0
  rw [ef_cC3_3 m b]
  refine g_iloadN D0 1 d_jdk_52m16_0 rfl rfl ?_
  refine g_newP D0 3 (aty := .byte) (hw _ w_16) d_jdk_52m16_1 (by decide) (cap := 3) (by decide) (by decide) (by decide) (by decide) (fun _ _ => trivial) rfl ?_
  intro T187 h187 a187 k187 g187 E187 V187 D187
  have V187' : Arv Z h187 a187 k187 .byte (3 : Int32) [(.int (0 : Int32)), (.int (0 : Int32)), (.int (0 : Int32))] (.int (0 : Int32)) := V187.pad (pad_rep [] (.int (0 : Int32)) 3)
  refine g_astoreN D187 4 #[.val (.ref b), .val (.int (0 : Int32)), .val (.int (3 : Int32)), .val (.ref a187), .unset, .unset] d_jdk_52m16_3 rfl rfl rfl ?_
  refine g_aloadN D187 5 d_jdk_52m16_4 rfl rfl rfl ?_
  refine g_iloadN D187 6 d_jdk_52m16_5 rfl rfl ?_
  refine g_aloadN D187 7 d_jdk_52m16_6 rfl rfl rfl ?_
  refine g_iconst D187 8 (0 : Int32) d_jdk_52m16_7 rfl rfl ?_
  refine g_iloadN D187 9 d_jdk_52m16_8 rfl rfl ?_
  by_cases q0 : (255 : Int32) < c0
  · refine g_callS D187 12 (hw _ w_52) (hw _ w_53) (hw _ w_50) (hw _ w_54) (by decide) ((cC5_3_0 l Z a0 hw [] b a187 kc k187 c0 c1 c2 h187 n0 (Nat.le_trans Z0 E187.1) (V_b.ext E187) V187' (Nat.le_trans Z0 (Nat.le_of_eq g187.symm)) (Nat.ne_of_lt (Nat.lt_of_lt_of_le V_b.lt (Nat.le_of_eq g187.symm))) q0).back D187 0 (hw _ w_54) (hw _ w_50) (by decide) (by decide)) rfl [(.ref b), (.int (0 : Int32)), (.ref a187), (.int (0 : Int32)), (.int (3 : Int32))] rfl (lenOf pd_3 rfl) rfl (Nat.le_of_eq rfl) (by decide) (by decide) (fun _ _ _ _ => trivial) d_jdk_52m16_9 rfl ?_
    intro v188 T188 h188 L188 q188 D188
    obtain ⟨rfl, N188, K188, V188⟩ := q188
    have NF188 := Fr.app (Fr.nil n0) N188
    show Go p e below _ (T188.setTop (mkF m 12 #[.val (.ref b), .val (.int (0 : Int32)), .val (.int (3 : Int32)), .val (.ref a187), .unset, .unset] [(.int (0 : Int32))]))
    refine g_istore D188 14 #[.val (.ref b), .val (.int (0 : Int32)), .val (.int (3 : Int32)), .val (.ref a187), .val (.int (0 : Int32)), .unset] d_jdk_52m16_12 rfl rfl ?_
    refine g_iload D188 16 d_jdk_52m16_14 rfl rfl ?_
    refine g_iloadN D188 17 d_jdk_52m16_16 rfl rfl ?_
    refine g_icmpN D188 20 d_jdk_52m16_17 (by decide) rfl ?_
    refine g_aloadN D188 21 d_jdk_52m16_20 rfl rfl rfl ?_
    refine g_iloadN D188 22 d_jdk_52m16_21 rfl rfl ?_
    refine g_iloadN D188 23 d_jdk_52m16_22 rfl rfl ?_
    refine g_callS D188 26 (hw _ w_85) (hw _ w_86) (hw _ w_50) (hw _ w_87) (by decide) ((cToB_3 l Z a0 hw [] b kc c0 c1 c2 h188 n0 (Nat.le_trans (Nat.le_trans Z0 E187.1) K188.1) ((OLD.ext E187).keep K188 (allS (Nat.le_trans Z0 (Nat.le_of_eq g187.symm)) all0)) SA SH SL ((V_b.ext E187).keep K188 (ninS (Nat.ne_of_lt (Nat.lt_of_lt_of_le V_b.lt (Nat.le_of_eq g187.symm))) nin0))).back D188 0 (hw _ w_87) (hw _ w_50) (by decide) (by decide)) rfl [(.ref b), (.int (0 : Int32)), (.int (3 : Int32))] rfl (lenOf pd_4 rfl) rfl (Nat.le_of_eq rfl) (by decide) (by decide) (fun _ _ _ _ => trivial) d_jdk_52m16_23 rfl ?_
    intro v189 T189 h189 L189 q189 D189
    obtain ⟨t189, k189, rfl, g189, N189, E189, V189⟩ := q189
    have NF189 := Fr.app NF188 N189
    show Go p e below _ (T189.setTop (mkF m 26 #[.val (.ref b), .val (.int (0 : Int32)), .val (.int (3 : Int32)), .val (.ref a187), .val (.int (0 : Int32)), .unset] [(.ref t189)]))
    refine g_astore D189 28 #[.val (.ref b), .val (.int (0 : Int32)), .val (.int (3 : Int32)), .val (.ref a187), .val (.int (0 : Int32)), .val (.ref t189)] d_jdk_52m16_26 rfl rfl rfl ?_
    refine g_aload D189 30 d_jdk_52m16_28 rfl rfl rfl ?_
    refine g_iload D189 32 d_jdk_52m16_30 rfl rfl ?_
    refine g_callSp D189 35 (hw _ w_101) (hw _ w_102) (hw _ w_50) (hw _ w_103) (by decide) ((cGet_3_0 l Z a0 hw [] t189 k189 c0 c1 c2 h189 n0 (Nat.le_trans (Nat.le_trans (Nat.le_trans Z0 E187.1) K188.1) E189.1) (((OLD.ext E187).keep K188 (allS (Nat.le_trans Z0 (Nat.le_of_eq g187.symm)) all0)).ext E189) SA SH SL V189 H0).back D189 0 (hw _ w_103) (hw _ w_50) (by decide) (by decide)) rfl [(.ref t189), (.int (0 : Int32))] rfl (lenOf pd_5 rfl) rfl (Nat.le_of_eq rfl) (by decide) (by decide) d_jdk_52m16_32 rfl ?_
    intro v190 T190 q190 D190
    subst q190
    show Go p e below _ (T190.setTop (mkF m 35 #[.val (.ref b), .val (.int (0 : Int32)), .val (.int (3 : Int32)), .val (.ref a187), .val (.int (0 : Int32)), .val (.ref t189)] [(.int c0)]))
    refine g_sipush D190 38 (255 : Int32) d_jdk_52m16_35 rfl rfl ?_
    refine g_icmpY D190 54 d_jdk_52m16_38 (tlt q0).2.2.1 (by decide) (by decide) ?_
    refine g_aload D190 56 d_jdk_52m16_54 rfl rfl rfl ?_
    exact r_A D190 hret rfl rfl hlk d_jdk_52m16_56 ⟨t189, k189, 1, _, _, rfl, (Nat.le_trans (Nat.le_trans (Nat.le_trans (Nat.le_refl _) E187.1) K188.1) g189), NF189, Keep.toExt ((((Keep.refl _ []).ext E187).trans K188 (allS (Or.inr (Nat.le_trans (Nat.le_refl _) (Nat.le_of_eq g187.symm))) all0)).ext E189), V189, Or.inr ⟨rfl, rfl, rfl, c0, List.mem_of_getElem? (i := 0) rfl, q0⟩⟩ (by decide) (by decide)
  · by_cases q1 : (255 : Int32) < c1
    · refine g_callS D187 12 (hw _ w_52) (hw _ w_53) (hw _ w_50) (hw _ w_54) (by decide) ((cC5_3_1 l Z a0 hw [] b a187 kc k187 c0 c1 c2 h187 n0 (Nat.le_trans Z0 E187.1) (V_b.ext E187) V187' (Nat.le_trans Z0 (Nat.le_of_eq g187.symm)) (Nat.ne_of_lt (Nat.lt_of_lt_of_le V_b.lt (Nat.le_of_eq g187.symm))) q0 q1).back D187 0 (hw _ w_54) (hw _ w_50) (by decide) (by decide)) rfl [(.ref b), (.int (0 : Int32)), (.ref a187), (.int (0 : Int32)), (.int (3 : Int32))] rfl (lenOf pd_3 rfl) rfl (Nat.le_of_eq rfl) (by decide) (by decide) (fun _ _ _ _ => trivial) d_jdk_52m16_9 rfl ?_
      intro v191 T191 h191 L191 q191 D191
      obtain ⟨rfl, N191, K191, V191⟩ := q191
      have NF191 := Fr.app (Fr.nil n0) N191
      show Go p e below _ (T191.setTop (mkF m 12 #[.val (.ref b), .val (.int (0 : Int32)), .val (.int (3 : Int32)), .val (.ref a187), .unset, .unset] [(.int (1 : Int32))]))
      refine g_istore D191 14 #[.val (.ref b), .val (.int (0 : Int32)), .val (.int (3 : Int32)), .val (.ref a187), .val (.int (1 : Int32)), .unset] d_jdk_52m16_12 rfl rfl ?_
      refine g_iload D191 16 d_jdk_52m16_14 rfl rfl ?_
      refine g_iloadN D191 17 d_jdk_52m16_16 rfl rfl ?_
      refine g_icmpN D191 20 d_jdk_52m16_17 (by decide) rfl ?_
      refine g_aloadN D191 21 d_jdk_52m16_20 rfl rfl rfl ?_
      refine g_iloadN D191 22 d_jdk_52m16_21 rfl rfl ?_
      refine g_iloadN D191 23 d_jdk_52m16_22 rfl rfl ?_
      refine g_callS D191 26 (hw _ w_85) (hw _ w_86) (hw _ w_50) (hw _ w_87) (by decide) ((cToB_3 l Z a0 hw [] b kc c0 c1 c2 h191 n0 (Nat.le_trans (Nat.le_trans Z0 E187.1) K191.1) ((OLD.ext E187).keep K191 (allS (Nat.le_trans Z0 (Nat.le_of_eq g187.symm)) all0)) SA SH SL ((V_b.ext E187).keep K191 (ninS (Nat.ne_of_lt (Nat.lt_of_lt_of_le V_b.lt (Nat.le_of_eq g187.symm))) nin0))).back D191 0 (hw _ w_87) (hw _ w_50) (by decide) (by decide)) rfl [(.ref b), (.int (0 : Int32)), (.int (3 : Int32))] rfl (lenOf pd_4 rfl) rfl (Nat.le_of_eq rfl) (by decide) (by decide) (fun _ _ _ _ => trivial) d_jdk_52m16_23 rfl ?_
      intro v192 T192 h192 L192 q192 D192
      obtain ⟨t192, k192, rfl, g192, N192, E192, V192⟩ := q192
      have NF192 := Fr.app NF191 N192
      show Go p e below _ (T192.setTop (mkF m 26 #[.val (.ref b), .val (.int (0 : Int32)), .val (.int (3 : Int32)), .val (.ref a187), .val (.int (1 : Int32)), .unset] [(.ref t192)]))
      refine g_astore D192 28 #[.val (.ref b), .val (.int (0 : Int32)), .val (.int (3 : Int32)), .val (.ref a187), .val (.int (1 : Int32)), .val (.ref t192)] d_jdk_52m16_26 rfl rfl rfl ?_
      refine g_aload D192 30 d_jdk_52m16_28 rfl rfl rfl ?_
      refine g_iload D192 32 d_jdk_52m16_30 rfl rfl ?_
      refine g_callSp D192 35 (hw _ w_101) (hw _ w_102) (hw _ w_50) (hw _ w_103) (by decide) ((cGet_3_1 l Z a0 hw [] t192 k192 c0 c1 c2 h192 n0 (Nat.le_trans (Nat.le_trans (Nat.le_trans Z0 E187.1) K191.1) E192.1) (((OLD.ext E187).keep K191 (allS (Nat.le_trans Z0 (Nat.le_of_eq g187.symm)) all0)).ext E192) SA SH SL V192 H1).back D192 0 (hw _ w_103) (hw _ w_50) (by decide) (by decide)) rfl [(.ref t192), (.int (1 : Int32))] rfl (lenOf pd_5 rfl) rfl (Nat.le_of_eq rfl) (by decide) (by decide) d_jdk_52m16_32 rfl ?_
      intro v193 T193 q193 D193
      subst q193
      show Go p e below _ (T193.setTop (mkF m 35 #[.val (.ref b), .val (.int (0 : Int32)), .val (.int (3 : Int32)), .val (.ref a187), .val (.int (1 : Int32)), .val (.ref t192)] [(.int c1)]))
      refine g_sipush D193 38 (255 : Int32) d_jdk_52m16_35 rfl rfl ?_
      refine g_icmpY D193 54 d_jdk_52m16_38 (tlt q1).2.2.1 (by decide) (by decide) ?_
      refine g_aload D193 56 d_jdk_52m16_54 rfl rfl rfl ?_
      exact r_A D193 hret rfl rfl hlk d_jdk_52m16_56 ⟨t192, k192, 1, _, _, rfl, (Nat.le_trans (Nat.le_trans (Nat.le_trans (Nat.le_refl _) E187.1) K191.1) g192), NF192, Keep.toExt ((((Keep.refl _ []).ext E187).trans K191 (allS (Or.inr (Nat.le_trans (Nat.le_refl _) (Nat.le_of_eq g187.symm))) all0)).ext E192), V192, Or.inr ⟨rfl, rfl, rfl, c1, List.mem_of_getElem? (i := 1) rfl, q1⟩⟩ (by decide) (by decide)
    · by_cases q2 : (255 : Int32) < c2
      · refine g_callS D187 12 (hw _ w_52) (hw _ w_53) (hw _ w_50) (hw _ w_54) (by decide) ((cC5_3_2 l Z a0 hw [] b a187 kc k187 c0 c1 c2 h187 n0 (Nat.le_trans Z0 E187.1) (V_b.ext E187) V187' (Nat.le_trans Z0 (Nat.le_of_eq g187.symm)) (Nat.ne_of_lt (Nat.lt_of_lt_of_le V_b.lt (Nat.le_of_eq g187.symm))) q0 q1 q2).back D187 0 (hw _ w_54) (hw _ w_50) (by decide) (by decide)) rfl [(.ref b), (.int (0 : Int32)), (.ref a187), (.int (0 : Int32)), (.int (3 : Int32))] rfl (lenOf pd_3 rfl) rfl (Nat.le_of_eq rfl) (by decide) (by decide) (fun _ _ _ _ => trivial) d_jdk_52m16_9 rfl ?_
        intro v194 T194 h194 L194 q194 D194
        obtain ⟨rfl, N194, K194, V194⟩ := q194
        have NF194 := Fr.app (Fr.nil n0) N194
        show Go p e below _ (T194.setTop (mkF m 12 #[.val (.ref b), .val (.int (0 : Int32)), .val (.int (3 : Int32)), .val (.ref a187), .unset, .unset] [(.int (2 : Int32))]))
        refine g_istore D194 14 #[.val (.ref b), .val (.int (0 : Int32)), .val (.int (3 : Int32)), .val (.ref a187), .val (.int (2 : Int32)), .unset] d_jdk_52m16_12 rfl rfl ?_
        refine g_iload D194 16 d_jdk_52m16_14 rfl rfl ?_
        refine g_iloadN D194 17 d_jdk_52m16_16 rfl rfl ?_
        refine g_icmpN D194 20 d_jdk_52m16_17 (by decide) rfl ?_
        refine g_aloadN D194 21 d_jdk_52m16_20 rfl rfl rfl ?_
        refine g_iloadN D194 22 d_jdk_52m16_21 rfl rfl ?_
        refine g_iloadN D194 23 d_jdk_52m16_22 rfl rfl ?_
        refine g_callS D194 26 (hw _ w_85) (hw _ w_86) (hw _ w_50) (hw _ w_87) (by decide) ((cToB_3 l Z a0 hw [] b kc c0 c1 c2 h194 n0 (Nat.le_trans (Nat.le_trans Z0 E187.1) K194.1) ((OLD.ext E187).keep K194 (allS (Nat.le_trans Z0 (Nat.le_of_eq g187.symm)) all0)) SA SH SL ((V_b.ext E187).keep K194 (ninS (Nat.ne_of_lt (Nat.lt_of_lt_of_le V_b.lt (Nat.le_of_eq g187.symm))) nin0))).back D194 0 (hw _ w_87) (hw _ w_50) (by decide) (by decide)) rfl [(.ref b), (.int (0 : Int32)), (.int (3 : Int32))] rfl (lenOf pd_4 rfl) rfl (Nat.le_of_eq rfl) (by decide) (by decide) (fun _ _ _ _ => trivial) d_jdk_52m16_23 rfl ?_
        intro v195 T195 h195 L195 q195 D195
        obtain ⟨t195, k195, rfl, g195, N195, E195, V195⟩ := q195
        have NF195 := Fr.app NF194 N195
        show Go p e below _ (T195.setTop (mkF m 26 #[.val (.ref b), .val (.int (0 : Int32)), .val (.int (3 : Int32)), .val (.ref a187), .val (.int (2 : Int32)), .unset] [(.ref t195)]))
        refine g_astore D195 28 #[.val (.ref b), .val (.int (0 : Int32)), .val (.int (3 : Int32)), .val (.ref a187), .val (.int (2 : Int32)), .val (.ref t195)] d_jdk_52m16_26 rfl rfl rfl ?_
        refine g_aload D195 30 d_jdk_52m16_28 rfl rfl rfl ?_
        refine g_iload D195 32 d_jdk_52m16_30 rfl rfl ?_
        refine g_callSp D195 35 (hw _ w_101) (hw _ w_102) (hw _ w_50) (hw _ w_103) (by decide) ((cGet_3_2 l Z a0 hw [] t195 k195 c0 c1 c2 h195 n0 (Nat.le_trans (Nat.le_trans (Nat.le_trans Z0 E187.1) K194.1) E195.1) (((OLD.ext E187).keep K194 (allS (Nat.le_trans Z0 (Nat.le_of_eq g187.symm)) all0)).ext E195) SA SH SL V195 H2).back D195 0 (hw _ w_103) (hw _ w_50) (by decide) (by decide)) rfl [(.ref t195), (.int (2 : Int32))] rfl (lenOf pd_5 rfl) rfl (Nat.le_of_eq rfl) (by decide) (by decide) d_jdk_52m16_32 rfl ?_
        intro v196 T196 q196 D196
        subst q196
        show Go p e below _ (T196.setTop (mkF m 35 #[.val (.ref b), .val (.int (0 : Int32)), .val (.int (3 : Int32)), .val (.ref a187), .val (.int (2 : Int32)), .val (.ref t195)] [(.int c2)]))
        refine g_sipush D196 38 (255 : Int32) d_jdk_52m16_35 rfl rfl ?_
        refine g_icmpY D196 54 d_jdk_52m16_38 (tlt q2).2.2.1 (by decide) (by decide) ?_
        refine g_aload D196 56 d_jdk_52m16_54 rfl rfl rfl ?_
        exact r_A D196 hret rfl rfl hlk d_jdk_52m16_56 ⟨t195, k195, 1, _, _, rfl, (Nat.le_trans (Nat.le_trans (Nat.le_trans (Nat.le_refl _) E187.1) K194.1) g195), NF195, Keep.toExt ((((Keep.refl _ []).ext E187).trans K194 (allS (Or.inr (Nat.le_trans (Nat.le_refl _) (Nat.le_of_eq g187.symm))) all0)).ext E195), V195, Or.inr ⟨rfl, rfl, rfl, c2, List.mem_of_getElem? (i := 2) rfl, q2⟩⟩ (by decide) (by decide)
      · refine g_callS D187 12 (hw _ w_52) (hw _ w_53) (hw _ w_50) (hw _ w_54) (by decide) ((cC5_3_3 l Z a0 hw [] b a187 kc k187 c0 c1 c2 h187 n0 (Nat.le_trans Z0 E187.1) (V_b.ext E187) V187' (Nat.le_trans Z0 (Nat.le_of_eq g187.symm)) (Nat.ne_of_lt (Nat.lt_of_lt_of_le V_b.lt (Nat.le_of_eq g187.symm))) q0 q1 q2).back D187 0 (hw _ w_54) (hw _ w_50) (by decide) (by decide)) rfl [(.ref b), (.int (0 : Int32)), (.ref a187), (.int (0 : Int32)), (.int (3 : Int32))] rfl (lenOf pd_3 rfl) rfl (Nat.le_of_eq rfl) (by decide) (by decide) (fun _ _ _ _ => trivial) d_jdk_52m16_9 rfl ?_
        intro v197 T197 h197 L197 q197 D197
        obtain ⟨rfl, N197, K197, V197⟩ := q197
        have NF197 := Fr.app (Fr.nil n0) N197
        show Go p e below _ (T197.setTop (mkF m 12 #[.val (.ref b), .val (.int (0 : Int32)), .val (.int (3 : Int32)), .val (.ref a187), .unset, .unset] [(.int (3 : Int32))]))
        refine g_istore D197 14 #[.val (.ref b), .val (.int (0 : Int32)), .val (.int (3 : Int32)), .val (.ref a187), .val (.int (3 : Int32)), .unset] d_jdk_52m16_12 rfl rfl ?_
        refine g_iload D197 16 d_jdk_52m16_14 rfl rfl ?_
        refine g_iloadN D197 17 d_jdk_52m16_16 rfl rfl ?_
        refine g_icmpY D197 57 d_jdk_52m16_17 (by decide) (by decide) (by decide) ?_
        refine g_aloadN D197 58 d_jdk_52m16_57 rfl rfl rfl ?_
        exact r_A D197 hret rfl rfl hlk d_jdk_52m16_58 ⟨a187, k187, 0, _, _, rfl, (Nat.le_trans (Nat.le_refl _) (Nat.le_of_eq g187.symm)), NF197, Keep.toExt (((Keep.refl _ []).ext E187).trans K197 (allS (Or.inr (Nat.le_trans (Nat.le_refl _) (Nat.le_of_eq g187.symm))) all0)), V197, Or.inl ⟨rfl, rfl, rfl, (u8_cons q0 (u8_cons q1 (u8_cons q2 u8_nil)))⟩⟩ (by decide) (by decide)
set_option maxRecDepth 65536 in
set_option maxHeartbeats 40000000 in
theorem cCod_3_0 (l : Launch) (Z : State) (a0 : Array Value) (hw : ∀ d ∈ tables_1, d.before a0 Z = true) (ws : List Jvm.Cond) (t : Addr) (kb : ClassId) (vs : List Value) (h0 : Heap) (n0 : Nat) (Z0 : n0 ≤ h0.size) (V_t : Arv Z h0 t kb .byte (3 : Int32) vs (.int (0 : Int32))) :
    Con l (⟨"java/lang/StringUTF16", "coderFromArrayLen", "([BI)B"⟩ : MethodName) jdk_52_method_15_code 2 (some .byte) ws ({ frames := 0, cells := 0, slots := 0, locals := 0 } : Room) Z #[(.ref t), (.int (3 : Int32))] h0 (fun v h L => v = some (.int (0 : Int32)) ∧ L = [] ∧ h = h0) 0 0 := by
  refine enter (plainFor_of_name pn_0) ?_
  intro p e s m below meth c s₁ hnm hret hlk D0
  rw [ef_cCod_3_0 m t]
  refine g_iloadN D0 1 d_jdk_52m15_0 rfl rfl ?_
  refine g_aloadN D0 2 d_jdk_52m15_1 rfl rfl rfl ?_
  refine g_alen D0 3 V_t d_jdk_52m15_2 rfl ?_
  refine g_isub D0 4 d_jdk_52m15_3 rfl ?_
  rw [show ((3 : Int32) - (3 : Int32)) = (0 : Int32) from by decide]
  refine g_bipush D0 6 (31 : Int32) d_jdk_52m15_4 rfl rfl ?_
  refine g_iushr D0 7 d_jdk_52m15_6 rfl ?_
  rw [show (XT.ushr (0 : Int32) (31 : Int32)) = (0 : Int32) from by decide]
  refine g_i2b D0 8 d_jdk_52m15_7 rfl ?_
  rw [show ((0 : Int32).toInt8.toInt32) = (0 : Int32) from by decide]
  exact r_N D0 hret (by simp) hlk d_jdk_52m15_8 ⟨(by decide : some (Value.int (nar .byte (0 : Int32))) = some (.int (0 : Int32))), rfl, rfl⟩ (by decide) (by decide)
set_option maxRecDepth 65536 in
set_option maxHeartbeats 40000000 in
theorem cCod_3_1 (l : Launch) (Z : State) (a0 : Array Value) (hw : ∀ d ∈ tables_1, d.before a0 Z = true) (ws : List Jvm.Cond) (t : Addr) (kb : ClassId) (vs : List Value) (h0 : Heap) (n0 : Nat) (Z0 : n0 ≤ h0.size) (V_t : Arv Z h0 t kb .byte (6 : Int32) vs (.int (0 : Int32))) :
    Con l (⟨"java/lang/StringUTF16", "coderFromArrayLen", "([BI)B"⟩ : MethodName) jdk_52_method_15_code 2 (some .byte) ws ({ frames := 0, cells := 0, slots := 0, locals := 0 } : Room) Z #[(.ref t), (.int (3 : Int32))] h0 (fun v h L => v = some (.int (1 : Int32)) ∧ L = [] ∧ h = h0) 0 0 := by
  refine enter (plainFor_of_name pn_0) ?_
  intro p e s m below meth c s₁ hnm hret hlk D0
  rw [ef_cCod_3_1 m t]
  refine g_iloadN D0 1 d_jdk_52m15_0 rfl rfl ?_
  refine g_aloadN D0 2 d_jdk_52m15_1 rfl rfl rfl ?_
  refine g_alen D0 3 V_t d_jdk_52m15_2 rfl ?_
  refine g_isub D0 4 d_jdk_52m15_3 rfl ?_
  rw [show ((3 : Int32) - (6 : Int32)) = (-3 : Int32) from by decide]
  refine g_bipush D0 6 (31 : Int32) d_jdk_52m15_4 rfl rfl ?_
  refine g_iushr D0 7 d_jdk_52m15_6 rfl ?_
  rw [show (XT.ushr (-3 : Int32) (31 : Int32)) = (1 : Int32) from by decide]
  refine g_i2b D0 8 d_jdk_52m15_7 rfl ?_
  rw [show ((1 : Int32).toInt8.toInt32) = (1 : Int32) from by decide]
  exact r_N D0 hret (by simp) hlk d_jdk_52m15_8 ⟨(by decide : some (Value.int (nar .byte (1 : Int32))) = some (.int (1 : Int32))), rfl, rfl⟩ (by decide) (by decide)
def Q_cN4_3 (Z : State) (x b : Addr) (kc : ClassId) (zc : Int32) (c0 c1 c2 : Int32) (h0 : Heap) (n0 : Nat) : Option Value → Heap → List Loc → Prop := (fun v h L => v = none ∧ Fr n0 L ∧ Keep h0 h [x] ∧ TS Z h x [c0, c1, c2])
set_option maxRecDepth 65536 in
set_option maxHeartbeats 40000000 in
theorem cN4_3 (l : Launch) (Z : State) (a0 : Array Value) (hw : ∀ d ∈ tables_1, d.before a0 Z = true) (ws : List Jvm.Cond) (x b : Addr) (kc : ClassId) (zc : Int32) (c0 c1 c2 : Int32) (h0 : Heap) (n0 : Nat) (Z0 : n0 ≤ h0.size) (OLD : Old Z n0 h0) (SA : Sta Z Z.heap "java/lang/StringUTF16" "$assertionsDisabled" "Z" (.int (1 : Int32))) (SH : Sta Z Z.heap "java/lang/StringUTF16" "HI_BYTE_SHIFT" "I" (.int (0 : Int32))) (SL : Sta Z Z.heap "java/lang/StringUTF16" "LO_BYTE_SHIFT" "I" (.int (8 : Int32))) (CS : Sta Z Z.heap "java/lang/String" "COMPACT_STRINGS" "Z" (.int zc)) (hzc : ¬ zc = 0) (E_x : Exa Z h0 x "java/lang/String") (F_v : Fld Z h0 x "java/lang/String" "value" "[B" .null) (F_c : Fld Z h0 x "java/lang/String" "coder" "B" (.int (0 : Int32))) (gx : n0 ≤ x) (V_b : Arv Z h0 b kc .char (3 : Int32) [(.int c0), (.int c1), (.int c2)] (.int (0 : Int32))) (H0 : C16 c0) (H1 : C16 c1) (H2 : C16 c2) :
    Con l (⟨"java/lang/String", "<init>", "([CIILjava/lang/Void;)V"⟩ : MethodName) jdk_42_method_149_code 6 none ws ({ frames := 4, cells := 2, slots := 9, locals := 57 } : Room) Z #[(.ref x), (.ref b), (.int (0 : Int32)), (.int (3 : Int32)), .null] h0 (Q_cN4_3 Z x b kc zc c0 c1 c2 h0 n0) 2 9 := by
  refine enter (plainFor_of_name pn_1) ?_
  intro p e s m below meth c s₁ hnm hret hlk D0
  rw [ef_cN4_3 m x b]
  refine g_aloadN D0 1 d_jdk_42m149_0 rfl rfl rfl ?_
  refine g_initO D0 4 (hw _ w_12) (hw _ w_13) (hw _ w_14) rfl d_jdk_42m149_1 (by decide) (W := 0) (Nat.le_of_eq rfl) (by decide) rfl ?_
  intro T198 D198
  refine g_iloadN D198 5 d_jdk_42m149_4 rfl rfl ?_
  refine g_ifY D198 27 d_jdk_42m149_5 (by decide) (by decide) (by decide) ?_
  refine g_getS D198 30 (hw _ w_45) Via.refl (CS.ext OLD.2) d_jdk_42m149_27 rfl ?_
  intro T199 D199
  refine g_ifN D199 33 d_jdk_42m149_30 (feq hzc).1 rfl ?_
  refine g_aloadN D199 34 d_jdk_42m149_33 rfl rfl rfl ?_
  refine g_iloadN D199 35 d_jdk_42m149_34 rfl rfl ?_
  refine g_iloadN D199 36 d_jdk_42m149_35 rfl rfl ?_
  refine g_callS D199 39 (hw _ w_48) (hw _ w_49) (hw _ w_50) (hw _ w_51) (by decide) ((cC3_3 l Z a0 hw [] b kc c0 c1 c2 h0 n0 Z0 OLD SA SH SL V_b H0 H1 H2).back D199 0 (hw _ w_51) (hw _ w_50) (by decide) (by decide)) rfl [(.ref b), (.int (0 : Int32)), (.int (3 : Int32))] rfl (lenOf pd_4 rfl) rfl (Nat.le_of_eq rfl) (by decide) (by decide) (fun _ _ _ _ => trivial) d_jdk_42m149_36 rfl ?_
  intro v200 T200 h200 L200 q200 D200
  obtain ⟨t200, k200, cd200, N2200, vs200, rfl, g200, N200, E200, V200, hc200⟩ := q200
  have NF200 := Fr.app (Fr.nil n0) N200
  show Go p e below _ (T200.setTop (mkF m 39 #[.val (.ref x), .val (.ref b), .val (.int (0 : Int32)), .val (.int (3 : Int32)), .val .null, .unset] [(.ref t200)]))
  refine g_astore D200 41 #[.val (.ref x), .val (.ref b), .val (.int (0 : Int32)), .val (.int (3 : Int32)), .val .null, .val (.ref t200)] d_jdk_42m149_39 rfl rfl rfl ?_
  refine g_aloadN D200 42 d_jdk_42m149_41 rfl rfl rfl ?_
  refine g_aload D200 44 d_jdk_42m149_42 rfl rfl rfl ?_
  refine g_iloadN D200 45 d_jdk_42m149_44 rfl rfl ?_
  have hk := hc200
  rcases hc200 with ⟨rfl, rfl, rfl, -⟩ | ⟨rfl, rfl, rfl, -⟩
  · refine g_callSp D200 48 (hw _ w_55) (hw _ w_56) (hw _ w_50) (hw _ w_57) (by decide) ((cCod_3_0 l Z a0 hw [] t200 k200 _ h200 n0 (Nat.le_trans Z0 E200.1) V200).back D200 1 (hw _ w_57) (hw _ w_50) (by decide) (by decide)) rfl [(.ref t200), (.int (3 : Int32))] rfl (lenOf pd_6 rfl) rfl (Nat.le_of_eq rfl) (by decide) (by decide) d_jdk_42m149_45 rfl ?_
    intro v201 T201 q201 D201
    subst q201
    show Go p e below _ (T201.setTop (mkF m 48 #[.val (.ref x), .val (.ref b), .val (.int (0 : Int32)), .val (.int (3 : Int32)), .val .null, .val (.ref t200)] [(.int (0 : Int32)), (.ref x)]))
    refine g_putF D201 51 (hw _ w_22) Via.refl (F_c.ext E200) (E_x.ext E200) (Or.inr ⟨(hw _ w_18), rfl, hnm⟩) (hw _ w_2) (ty := .byte) (by decide) rfl rfl (fun _ _ => trivial) d_jdk_42m149_48 rfl ?_
    intro T202 h202 W202 D202
    have N202 := Fr.snoc D202.st NF200 gx
    have F202 := (F_c.ext E200).same W202
    refine g_aloadN D202 52 d_jdk_42m149_51 rfl rfl rfl ?_
    refine g_aload D202 54 d_jdk_42m149_52 rfl rfl rfl ?_
    refine g_putF D202 57 (hw _ w_21) Via.refl ((F_v.ext E200).other W202 (Or.inr (slot_ne (Or.inr (hw _ w_17)) (Or.inr (hw _ w_18)) (by decide) (t := (.array .byte)) (t' := .byte) (by decide) (by decide)))) ((E_x.ext E200).wr W202) (Or.inr ⟨(hw _ w_17), rfl, hnm⟩) (hw _ w_2) (ty := (.array .byte)) (by decide) rfl rfl (fun _ _ => trivial) d_jdk_42m149_54 rfl ?_
    intro T203 h203 W203 D203
    have N203 := Fr.snoc D203.st N202 gx
    have F203 := ((F_v.ext E200).other W202 (Or.inr (slot_ne (Or.inr (hw _ w_17)) (Or.inr (hw _ w_18)) (by decide) (t := (.array .byte)) (t' := .byte) (by decide) (by decide)))).same W203
    exact r_V D203 hret hlk d_jdk_42m149_57 ⟨rfl, N203, ((((Keep.refl _ [x]).ext E200).wr W202 (Or.inl (List.mem_of_getElem? (i := 0) rfl))).wr W203 (Or.inl (List.mem_of_getElem? (i := 0) rfl))), t200, k200, (0 : Int32), _, _, (((E_x.ext E200).wr W202).wr W203), (F202.other W203 (Or.inr (slot_ne (Or.inr (hw _ w_18)) (Or.inr (hw _ w_17)) (by decide) (t := .byte) (t' := (.array .byte)) (by decide) (by decide)))), F203, ((V200.other W202 (Ne.symm (Nat.ne_of_lt (Nat.lt_of_lt_of_le E_x.lt g200)))).other W203 (Ne.symm (Nat.ne_of_lt (Nat.lt_of_lt_of_le E_x.lt g200)))), hk, (c16_cons H0 (c16_cons H1 (c16_cons H2 c16_nil))), Nat.le_of_ble_eq_true rfl⟩ (by decide) (by decide)
  · refine g_callSp D200 48 (hw _ w_55) (hw _ w_56) (hw _ w_50) (hw _ w_57) (by decide) ((cCod_3_1 l Z a0 hw [] t200 k200 _ h200 n0 (Nat.le_trans Z0 E200.1) V200).back D200 1 (hw _ w_57) (hw _ w_50) (by decide) (by decide)) rfl [(.ref t200), (.int (3 : Int32))] rfl (lenOf pd_6 rfl) rfl (Nat.le_of_eq rfl) (by decide) (by decide) d_jdk_42m149_45 rfl ?_
    intro v204 T204 q204 D204
    subst q204
    show Go p e below _ (T204.setTop (mkF m 48 #[.val (.ref x), .val (.ref b), .val (.int (0 : Int32)), .val (.int (3 : Int32)), .val .null, .val (.ref t200)] [(.int (1 : Int32)), (.ref x)]))
    refine g_putF D204 51 (hw _ w_22) Via.refl (F_c.ext E200) (E_x.ext E200) (Or.inr ⟨(hw _ w_18), rfl, hnm⟩) (hw _ w_2) (ty := .byte) (by decide) rfl rfl (fun _ _ => trivial) d_jdk_42m149_48 rfl ?_
    intro T205 h205 W205 D205
    have N205 := Fr.snoc D205.st NF200 gx
    have F205 := (F_c.ext E200).same W205
    refine g_aloadN D205 52 d_jdk_42m149_51 rfl rfl rfl ?_
    refine g_aload D205 54 d_jdk_42m149_52 rfl rfl rfl ?_
    refine g_putF D205 57 (hw _ w_21) Via.refl ((F_v.ext E200).other W205 (Or.inr (slot_ne (Or.inr (hw _ w_17)) (Or.inr (hw _ w_18)) (by decide) (t := (.array .byte)) (t' := .byte) (by decide) (by decide)))) ((E_x.ext E200).wr W205) (Or.inr ⟨(hw _ w_17), rfl, hnm⟩) (hw _ w_2) (ty := (.array .byte)) (by decide) rfl rfl (fun _ _ => trivial) d_jdk_42m149_54 rfl ?_
    intro T206 h206 W206 D206
    have N206 := Fr.snoc D206.st N205 gx
    have F206 := ((F_v.ext E200).other W205 (Or.inr (slot_ne (Or.inr (hw _ w_17)) (Or.inr (hw _ w_18)) (by decide) (t := (.array .byte)) (t' := .byte) (by decide) (by decide)))).same W206
    exact r_V D206 hret hlk d_jdk_42m149_57 ⟨rfl, N206, ((((Keep.refl _ [x]).ext E200).wr W205 (Or.inl (List.mem_of_getElem? (i := 0) rfl))).wr W206 (Or.inl (List.mem_of_getElem? (i := 0) rfl))), t200, k200, (1 : Int32), _, _, (((E_x.ext E200).wr W205).wr W206), (F205.other W206 (Or.inr (slot_ne (Or.inr (hw _ w_18)) (Or.inr (hw _ w_17)) (by decide) (t := .byte) (t' := (.array .byte)) (by decide) (by decide)))), F206, ((V200.other W205 (Ne.symm (Nat.ne_of_lt (Nat.lt_of_lt_of_le E_x.lt g200)))).other W206 (Ne.symm (Nat.ne_of_lt (Nat.lt_of_lt_of_le E_x.lt g200)))), hk, (c16_cons H0 (c16_cons H1 (c16_cons H2 c16_nil))), Nat.le_of_ble_eq_true rfl⟩ (by decide) (by decide)
def Q_cN1_3 (Z : State) (x b : Addr) (kc : ClassId) (zc : Int32) (c0 c1 c2 : Int32) (h0 : Heap) (n0 : Nat) : Option Value → Heap → List Loc → Prop := (fun v h L => v = none ∧ Fr n0 L ∧ Keep h0 h [x] ∧ TS Z h x [c0, c1, c2])
set_option maxRecDepth 65536 in
set_option maxHeartbeats 40000000 in
theorem cN1_3 (l : Launch) (Z : State) (a0 : Array Value) (hw : ∀ d ∈ tables_1, d.before a0 Z = true) (ws : List Jvm.Cond) (x b : Addr) (kc : ClassId) (zc : Int32) (c0 c1 c2 : Int32) (h0 : Heap) (n0 : Nat) (Z0 : n0 ≤ h0.size) (OLD : Old Z n0 h0) (SA : Sta Z Z.heap "java/lang/StringUTF16" "$assertionsDisabled" "Z" (.int (1 : Int32))) (SH : Sta Z Z.heap "java/lang/StringUTF16" "HI_BYTE_SHIFT" "I" (.int (0 : Int32))) (SL : Sta Z Z.heap "java/lang/StringUTF16" "LO_BYTE_SHIFT" "I" (.int (8 : Int32))) (CS : Sta Z Z.heap "java/lang/String" "COMPACT_STRINGS" "Z" (.int zc)) (hzc : ¬ zc = 0) (E_x : Exa Z h0 x "java/lang/String") (F_v : Fld Z h0 x "java/lang/String" "value" "[B" .null) (F_c : Fld Z h0 x "java/lang/String" "coder" "B" (.int (0 : Int32))) (gx : n0 ≤ x) (V_b : Arv Z h0 b kc .char (3 : Int32) [(.int c0), (.int c1), (.int c2)] (.int (0 : Int32))) (H0 : C16 c0) (H1 : C16 c1) (H2 : C16 c2) :
    Con l (⟨"java/lang/String", "<init>", "([C)V"⟩ : MethodName) jdk_42_method_3_code 2 none ws ({ frames := 5, cells := 2, slots := 9, locals := 74 } : Room) Z #[(.ref x), (.ref b)] h0 (Q_cN1_3 Z x b kc zc c0 c1 c2 h0 n0) 2 9 := by
  refine enter (plainFor_of_name pn_1) ?_
  intro p e s m below meth c s₁ hnm hret hlk D0
  rw [ef_cN1_3 m x b]
  refine g_aloadN D0 1 d_jdk_42m3_0 rfl rfl rfl ?_
  refine g_aloadN D0 2 d_jdk_42m3_1 rfl rfl rfl ?_
  refine g_iconst D0 3 (0 : Int32) d_jdk_42m3_2 rfl rfl ?_
  refine g_aloadN D0 4 d_jdk_42m3_3 rfl rfl rfl ?_
  refine g_alen D0 5 V_b d_jdk_42m3_4 rfl ?_
  refine g_aconst D0 6 d_jdk_42m3_5 rfl ?_
  refine g_callN D0 9 rfl (hw _ w_8) (hw _ w_9) (hw _ w_11) (by decide) ((cN4_3 l Z a0 hw [] x b kc zc c0 c1 c2 h0 n0 Z0 OLD SA SH SL CS hzc E_x F_v F_c gx V_b H0 H1 H2).back D0 0 (hw _ w_11) (hw _ w_3) (by decide) (by decide)) rfl [(.ref b), (.int (0 : Int32)), (.int (3 : Int32)), .null] rfl (lenOf pd_7 rfl) rfl (Nat.le_of_eq rfl) (by decide) (by decide) (fun _ _ _ _ => trivial) d_jdk_42m3_6 rfl ?_
  intro v207 T207 h207 L207 q207 D207
  obtain ⟨rfl, N1, K1, X1⟩ := q207
  rw [List.nil_append] at D207
  show Go p e below _ (T207.setTop (mkF m 9 #[.val (.ref x), .val (.ref b)] []))
  exact r_V D207 hret hlk d_jdk_42m3_9 ⟨rfl, N1, K1, X1⟩ (by decide) (by decide)
def Q_cE4 (Z : State) (x b : Addr) (h0 : Heap) (n0 : Nat) : Option Value → Heap → List Loc → Prop := (fun v h L => v = none ∧ Fr n0 L ∧ Keep h0 h [x] ∧ LS Z h x [])
set_option maxRecDepth 65536 in
set_option maxHeartbeats 40000000 in
theorem cE4 (l : Launch) (Z : State) (a0 : Array Value) (hw : ∀ d ∈ tables_1, d.before a0 Z = true) (ws : List Jvm.Cond) (x b : Addr) (h0 : Heap) (n0 : Nat) (Z0 : n0 ≤ h0.size) (hEW : EW Z a0 consts_1) (E_x : Exa Z h0 x "java/lang/String") (F_v : Fld Z h0 x "java/lang/String" "value" "[B" .null) (F_c : Fld Z h0 x "java/lang/String" "coder" "B" (.int (0 : Int32))) (gx : n0 ≤ x) :
    ConW l (⟨"java/lang/String", "<init>", "([CIILjava/lang/Void;)V"⟩ : MethodName) jdk_42_method_149_code 6 none ws ({ frames := 1, cells := 4, slots := 8, locals := 12 } : Room) Z consts_1 #[(.ref x), (.ref b), (.int (0 : Int32)), (.int (0 : Int32)), .null] h0 (Q_cE4 Z x b h0 n0) 4 8 := by
  refine enterW (plainFor_of_name pn_1) ?_
  intro p e s m below meth c s₁ hnm hret hlk D0
  rw [ef_cE4 m x b]
  refine g_aloadN D0 1 d_jdk_42m149_0 rfl rfl rfl ?_
  refine g_initO D0 4 (hw _ w_12) (hw _ w_13) (hw _ w_14) rfl d_jdk_42m149_1 (by decide) (W := 0) (Nat.le_of_eq rfl) (by decide) rfl ?_
  intro T208 D208
  refine g_iloadN D208 5 d_jdk_42m149_4 rfl rfl ?_
  refine g_ifN D208 8 d_jdk_42m149_5 (by decide) rfl ?_
  refine g_aloadN D208 9 d_jdk_42m149_8 rfl rfl rfl ?_
  refine g_ldcS D208 11 hEW (hw _ w_15) (fun a ha => hw a (wsa a ha)) (by decide) [] 0 ⟨by decide, rfl⟩ ⟨by decide, by decide⟩ (by decide) (by decide) d_jdk_42m149_9 (by decide) (by decide) rfl ?_
  intro s209 T209 h209 la209 lt209 lk209 E209 X209 C209 V209 A209 HS209 SF209 D209
  have S209 := SF209 x E_x.lt (safe_null D208.wm.alike E_x F_v)
  refine g_getF D209 14 (hw _ w_21) Via.refl V209 d_jdk_42m149_11 rfl ?_
  intro T210 D210
  refine g_putF D210 17 (hw _ w_21) Via.refl (F_v.ext E209) (E_x.ext E209) (Or.inr ⟨(hw _ w_17), rfl, hnm⟩) (hw _ w_2) (ty := (.array .byte)) (by decide) rfl rfl (fun _ W => D210.iv.wr S209 W) d_jdk_42m149_14 rfl ?_
  intro T211 h211 W211 D211
  have N211 := Fr.snoc D211.st (Fr.nil n0) gx
  have F211 := (F_v.ext E209).same W211
  have S209b := D210.iv.safeWr S209 W211 S209
  refine g_aloadN D211 18 d_jdk_42m149_17 rfl rfl rfl ?_
  refine g_ldcS D211 20 hEW (hw _ w_15) (fun a ha => hw a (wsa a ha)) (by decide) [] 0 ⟨by decide, rfl⟩ ⟨by decide, by decide⟩ (by decide) (by decide) d_jdk_42m149_18 (by decide) (by decide) rfl ?_
  intro s212 T212 h212 la212 lt212 lk212 E212 X212 C212 V212 A212 HS212 SF212 D212
  have S212 := SF212 x ((E_x.ext E209).wr W211).lt S209b
  refine g_getF D212 23 (hw _ w_22) Via.refl C212 d_jdk_42m149_20 rfl ?_
  intro T213 D213
  refine g_putF D213 26 (hw _ w_22) Via.refl (((F_c.ext E209).other W211 (Or.inr (slot_ne (Or.inr (hw _ w_18)) (Or.inr (hw _ w_17)) (by decide) (t := .byte) (t' := (.array .byte)) (by decide) (by decide)))).ext E212) (((E_x.ext E209).wr W211).ext E212) (Or.inr ⟨(hw _ w_18), rfl, hnm⟩) (hw _ w_2) (ty := .byte) (by decide) rfl rfl (fun _ W => D213.iv.wr S212 W) d_jdk_42m149_23 rfl ?_
  intro T214 h214 W214 D214
  have N214 := Fr.snoc D214.st N211 gx
  have F214 := (((F_c.ext E209).other W211 (Or.inr (slot_ne (Or.inr (hw _ w_18)) (Or.inr (hw _ w_17)) (by decide) (t := .byte) (t' := (.array .byte)) (by decide) (by decide)))).ext E212).same W214
  exact r_Vw D214 hEW hret hlk d_jdk_42m149_26 ⟨rfl, N214, (((((Keep.refl _ [x]).ext E209).wr W211 (Or.inl (List.mem_of_getElem? (i := 0) rfl))).ext E212).wr W214 (Or.inl (List.mem_of_getElem? (i := 0) rfl))), lt209, lk209, ((((E_x.ext E209).wr W211).ext E212).wr W214), F214, ((F211.ext E212).other W214 (Or.inr (slot_ne (Or.inr (hw _ w_17)) (Or.inr (hw _ w_18)) (by decide) (t := (.array .byte)) (t' := .byte) (by decide) (by decide)))), (((A209.other W211 (Ne.symm (HS209 x S209).2)).ext E212).other W214 (Ne.symm (HS209 x S209).2)), b8_nil, by decide⟩ (by decide) (by decide)
def Q_cE1 (Z : State) (x b : Addr) (kb : ClassId) (h0 : Heap) (n0 : Nat) : Option Value → Heap → List Loc → Prop := (fun v h L => v = none ∧ Fr n0 L ∧ Keep h0 h [x] ∧ LS Z h x [])
set_option maxRecDepth 65536 in
set_option maxHeartbeats 40000000 in
theorem cE1 (l : Launch) (Z : State) (a0 : Array Value) (hw : ∀ d ∈ tables_1, d.before a0 Z = true) (ws : List Jvm.Cond) (x b : Addr) (kb : ClassId) (h0 : Heap) (n0 : Nat) (Z0 : n0 ≤ h0.size) (hEW : EW Z a0 consts_1) (E_x : Exa Z h0 x "java/lang/String") (F_v : Fld Z h0 x "java/lang/String" "value" "[B" .null) (F_c : Fld Z h0 x "java/lang/String" "coder" "B" (.int (0 : Int32))) (gx : n0 ≤ x) (V_b : Arv Z h0 b kb .char (0 : Int32) [] (.int (0 : Int32))) :
    ConW l (⟨"java/lang/String", "<init>", "([C)V"⟩ : MethodName) jdk_42_method_3_code 2 none ws ({ frames := 2, cells := 4, slots := 8, locals := 29 } : Room) Z consts_1 #[(.ref x), (.ref b)] h0 (Q_cE1 Z x b kb h0 n0) 4 8 := by
  refine enterW (plainFor_of_name pn_1) ?_
  intro p e s m below meth c s₁ hnm hret hlk D0
  rw [ef_cE1 m x b]
  refine g_aloadN D0 1 d_jdk_42m3_0 rfl rfl rfl ?_
  refine g_aloadN D0 2 d_jdk_42m3_1 rfl rfl rfl ?_
  refine g_iconst D0 3 (0 : Int32) d_jdk_42m3_2 rfl rfl ?_
  refine g_aloadN D0 4 d_jdk_42m3_3 rfl rfl rfl ?_
  refine g_alen D0 5 V_b d_jdk_42m3_4 rfl ?_
  refine g_aconst D0 6 d_jdk_42m3_5 rfl ?_
  refine g_callNW D0 9 hEW rfl (hw _ w_8) (hw _ w_9) (hw _ w_3) (hw _ w_11) (by decide) (cE4 l Z a0 hw [] x b h0 n0 Z0 hEW E_x F_v F_c gx) rfl [(.ref b), (.int (0 : Int32)), (.int (0 : Int32)), .null] rfl (lenOf pd_7 rfl) rfl 0 (Nat.le_of_eq rfl) (by decide) (by decide) (by decide) (by decide) d_jdk_42m3_6 rfl ?_
  intro v215 s215 T215 h215 L215 q215 SF215 D215
  obtain ⟨rfl, N1, K1, X1⟩ := q215
  rw [List.nil_append] at D215
  show Go p e below _ (T215.setTop (mkF m 9 #[.val (.ref x), .val (.ref b)] []))
  exact r_Vw D215 hEW hret hlk d_jdk_42m3_9 ⟨rfl, N1, K1, X1⟩ (by decide) (by decide)
set_option maxRecDepth 65536 in
set_option maxHeartbeats 40000000 in
theorem cIL_0 (l : Launch) (Z : State) (a0 : Array Value) (hw : ∀ d ∈ tables_1, d.before a0 Z = true) (ws : List Jvm.Cond) (x : Addr) (zc : Int32) (h0 : Heap) (n0 : Nat) (Z0 : n0 ≤ h0.size) (OLD : Old Z n0 h0) (CS : Sta Z Z.heap "java/lang/String" "COMPACT_STRINGS" "Z" (.int zc)) (hzc : ¬ zc = 0) (F_c : Fld Z h0 x "java/lang/String" "coder" "B" (.int (0 : Int32))) :
    Con l (⟨"java/lang/String", "isLatin1", "()Z"⟩ : MethodName) jdk_42_method_154_code 1 (some .boolean) ws ({ frames := 0, cells := 0, slots := 0, locals := 0 } : Room) Z #[(.ref x)] h0 (fun v h L => v = some (.int (1 : Int32)) ∧ L = [] ∧ h = h0) 0 0 := by
  refine enter (plainFor_of_name pn_1) ?_
  intro p e s m below meth c s₁ hnm hret hlk D0
  rw [ef_cIL_0 m x]
  refine g_getS D0 3 (hw _ w_45) Via.refl (CS.ext OLD.2) d_jdk_42m154_0 rfl ?_
  intro T216 D216
  refine g_ifN D216 6 d_jdk_42m154_3 (feq hzc).1 rfl ?_
  refine g_aloadN D216 7 d_jdk_42m154_6 rfl rfl rfl ?_
  refine g_getF D216 10 (hw _ w_22) Via.refl F_c d_jdk_42m154_7 rfl ?_
  intro T217 D217
  refine g_ifN D217 13 d_jdk_42m154_10 (by decide) rfl ?_
  refine g_iconst D217 14 (1 : Int32) d_jdk_42m154_13 rfl rfl ?_
  refine g_goto D217 18 d_jdk_42m154_14 (by decide) (by decide) ?_
  exact r_N D217 hret (by simp) hlk d_jdk_42m154_18 ⟨own_r1, rfl, rfl⟩ (by decide) (by decide)
set_option maxRecDepth 65536 in
set_option maxHeartbeats 40000000 in
theorem cIL_1 (l : Launch) (Z : State) (a0 : Array Value) (hw : ∀ d ∈ tables_1, d.before a0 Z = true) (ws : List Jvm.Cond) (x : Addr) (zc : Int32) (h0 : Heap) (n0 : Nat) (Z0 : n0 ≤ h0.size) (OLD : Old Z n0 h0) (CS : Sta Z Z.heap "java/lang/String" "COMPACT_STRINGS" "Z" (.int zc)) (hzc : ¬ zc = 0) (F_c : Fld Z h0 x "java/lang/String" "coder" "B" (.int (1 : Int32))) :
    Con l (⟨"java/lang/String", "isLatin1", "()Z"⟩ : MethodName) jdk_42_method_154_code 1 (some .boolean) ws ({ frames := 0, cells := 0, slots := 0, locals := 0 } : Room) Z #[(.ref x)] h0 (fun v h L => v = some (.int (0 : Int32)) ∧ L = [] ∧ h = h0) 0 0 := by
  refine enter (plainFor_of_name pn_1) ?_
  intro p e s m below meth c s₁ hnm hret hlk D0
  rw [ef_cIL_1 m x]
  refine g_getS D0 3 (hw _ w_45) Via.refl (CS.ext OLD.2) d_jdk_42m154_0 rfl ?_
  intro T218 D218
  refine g_ifN D218 6 d_jdk_42m154_3 (feq hzc).1 rfl ?_
  refine g_aloadN D218 7 d_jdk_42m154_6 rfl rfl rfl ?_
  refine g_getF D218 10 (hw _ w_22) Via.refl F_c d_jdk_42m154_7 rfl ?_
  intro T219 D219
  refine g_ifY D219 17 d_jdk_42m154_10 (by decide) (by decide) (by decide) ?_
  refine g_iconst D219 18 (0 : Int32) d_jdk_42m154_17 rfl rfl ?_
  exact r_N D219 hret (by simp) hlk d_jdk_42m154_18 ⟨(by decide : some (Value.int (nar .boolean (0 : Int32))) = some (.int 0)), rfl, rfl⟩ (by decide) (by decide)
set_option maxRecDepth 65536 in
set_option maxHeartbeats 40000000 in
theorem cUL_1 (l : Launch) (Z : State) (a0 : Array Value) (hw : ∀ d ∈ tables_1, d.before a0 Z = true) (ws : List Jvm.Cond) (t : Addr) (kb : ClassId) (vs : List Value) (h0 : Heap) (n0 : Nat) (Z0 : n0 ≤ h0.size) (V_t : Arv Z h0 t kb .byte (2 : Int32) vs (.int (0 : Int32))) :
    Con l (⟨"java/lang/StringUTF16", "length", "([B)I"⟩ : MethodName) jdk_52_method_6_code 1 (some .int) ws ({ frames := 0, cells := 0, slots := 0, locals := 0 } : Room) Z #[(.ref t)] h0 (fun v h L => v = some (.int (1 : Int32)) ∧ L = [] ∧ h = h0) 0 0 := by
  refine enter (plainFor_of_name pn_0) ?_
  intro p e s m below meth c s₁ hnm hret hlk D0
  rw [ef_cUL_1 m t]
  refine g_aloadN D0 1 d_jdk_52m6_0 rfl rfl rfl ?_
  refine g_alen D0 2 V_t d_jdk_52m6_1 rfl ?_
  refine g_iconst D0 3 (1 : Int32) d_jdk_52m6_2 rfl rfl ?_
  refine g_ishr D0 4 d_jdk_52m6_3 rfl ?_
  rw [show ((2 : Int32) >>> ((1 : Int32) &&& 31)) = (1 : Int32) from by decide]
  exact r_I D0 hret hlk d_jdk_52m6_4 ⟨rfl, rfl, rfl⟩ (by decide) (by decide)
set_option maxRecDepth 65536 in
set_option maxHeartbeats 40000000 in
theorem cPCI_1_0_r (l : Launch) (Z : State) (a0 : Array Value) (hw : ∀ d ∈ tables_1, d.before a0 Z = true) (ws : List Jvm.Cond) (fa : Addr) (h0 : Heap) (n0 : Nat) (Z0 : n0 ≤ h0.size)  :
    Con l (⟨"jdk/internal/util/Preconditions", "checkIndex", "(IILjava/util/function/BiFunction;)I"⟩ : MethodName) jdk_41_method_11_code 3 (some .int) ws ({ frames := 0, cells := 0, slots := 0, locals := 0 } : Room) Z #[(.int (0 : Int32)), (.int (1 : Int32)), (.ref fa)] h0 (fun v h L => v = some (.int (0 : Int32)) ∧ L = [] ∧ h = h0) 0 0 := by
  refine enter (plainFor_of_name pn_2) ?_
  intro p e s m below meth c s₁ hnm hret hlk D0
  rw [ef_cPCI_1_0_r m fa]
  refine g_iloadN D0 1 d_jdk_41m11_0 rfl rfl ?_
  refine g_ifN D0 4 d_jdk_41m11_1 (by decide) rfl ?_
  refine g_iloadN D0 5 d_jdk_41m11_4 rfl rfl ?_
  refine g_iloadN D0 6 d_jdk_41m11_5 rfl rfl ?_
  refine g_icmpY D0 16 d_jdk_41m11_6 (by decide) (by decide) (by decide) ?_
  refine g_iloadN D0 17 d_jdk_41m11_16 rfl rfl ?_
  exact r_I D0 hret hlk d_jdk_41m11_17 ⟨rfl, rfl, rfl⟩ (by decide) (by decide)
set_option maxRecDepth 65536 in
set_option maxHeartbeats 40000000 in
theorem cPCI_1_0_n (l : Launch) (Z : State) (a0 : Array Value) (hw : ∀ d ∈ tables_1, d.before a0 Z = true) (ws : List Jvm.Cond)  (h0 : Heap) (n0 : Nat) (Z0 : n0 ≤ h0.size)  :
    Con l (⟨"jdk/internal/util/Preconditions", "checkIndex", "(IILjava/util/function/BiFunction;)I"⟩ : MethodName) jdk_41_method_11_code 3 (some .int) ws ({ frames := 0, cells := 0, slots := 0, locals := 0 } : Room) Z #[(.int (0 : Int32)), (.int (1 : Int32)), .null] h0 (fun v h L => v = some (.int (0 : Int32)) ∧ L = [] ∧ h = h0) 0 0 := by
  refine enter (plainFor_of_name pn_2) ?_
  intro p e s m below meth c s₁ hnm hret hlk D0
  rw [ef_cPCI_1_0_n m]
  refine g_iloadN D0 1 d_jdk_41m11_0 rfl rfl ?_
  refine g_ifN D0 4 d_jdk_41m11_1 (by decide) rfl ?_
  refine g_iloadN D0 5 d_jdk_41m11_4 rfl rfl ?_
  refine g_iloadN D0 6 d_jdk_41m11_5 rfl rfl ?_
  refine g_icmpY D0 16 d_jdk_41m11_6 (by decide) (by decide) (by decide) ?_
  refine g_iloadN D0 17 d_jdk_41m11_16 rfl rfl ?_
  exact r_I D0 hret hlk d_jdk_41m11_17 ⟨rfl, rfl, rfl⟩ (by decide) (by decide)
set_option maxRecDepth 65536 in
set_option maxHeartbeats 40000000 in
theorem cSCI_1_0 (l : Launch) (Z : State) (a0 : Array Value) (hw : ∀ d ∈ tables_1, d.before a0 Z = true) (ws : List Jvm.Cond) (fm : Value) (h0 : Heap) (n0 : Nat) (Z0 : n0 ≤ h0.size) (OLD : Old Z n0 h0) (SFm : Sta Z Z.heap "jdk/internal/util/Preconditions" "SIOOBE_FORMATTER" "Ljava/util/function/BiFunction;" fm) (rfm : fm.isRef = true) :
    Con l (⟨"java/lang/String", "checkIndex", "(II)V"⟩ : MethodName) jdk_42_method_155_code 2 none ws ({ frames := 1, cells := 0, slots := 0, locals := 14 } : Room) Z #[(.int (0 : Int32)), (.int (1 : Int32))] h0 (fun v h L => v = none ∧ L = [] ∧ h = h0) 0 0 := by
  refine enter (plainFor_of_name pn_1) ?_
  intro p e s m below meth c s₁ hnm hret hlk D0
  rw [ef_cSCI_1_0 m]
  obtain ⟨fa, rfl⟩ | rfl := ref_cases rfm
  · refine g_iloadN D0 1 d_jdk_42m155_0 rfl rfl ?_
    refine g_iloadN D0 2 d_jdk_42m155_1 rfl rfl ?_
    refine g_getS D0 5 (hw _ w_79) Via.refl (SFm.ext OLD.2) d_jdk_42m155_2 rfl ?_
    intro T220 D220
    refine g_callSp D220 8 (hw _ w_81) (hw _ w_82) (hw _ w_80) (hw _ w_83) (by decide) ((cPCI_1_0_r l Z a0 hw [] fa h0 n0 Z0).back D220 0 (hw _ w_83) (hw _ w_80) (by decide) (by decide)) rfl [(.int (0 : Int32)), (.int (1 : Int32)), (.ref fa)] rfl (lenOf pd_8 rfl) rfl (Nat.le_of_eq rfl) (by decide) (by decide) d_jdk_42m155_5 rfl ?_
    intro v221 T221 q221 D221
    subst q221
    show Go p e below _ (T221.setTop (mkF m 8 #[.val (.int (0 : Int32)), .val (.int (1 : Int32))] [(.int (0 : Int32))]))
    refine g_pop D221 9 d_jdk_42m155_8 rfl rfl ?_
    exact r_V D221 hret hlk d_jdk_42m155_9 ⟨rfl, rfl, rfl⟩ (by decide) (by decide)
  · refine g_iloadN D0 1 d_jdk_42m155_0 rfl rfl ?_
    refine g_iloadN D0 2 d_jdk_42m155_1 rfl rfl ?_
    refine g_getS D0 5 (hw _ w_79) Via.refl (SFm.ext OLD.2) d_jdk_42m155_2 rfl ?_
    intro T222 D222
    refine g_callSp D222 8 (hw _ w_81) (hw _ w_82) (hw _ w_80) (hw _ w_83) (by decide) ((cPCI_1_0_n l Z a0 hw [] h0 n0 Z0).back D222 0 (hw _ w_83) (hw _ w_80) (by decide) (by decide)) rfl [(.int (0 : Int32)), (.int (1 : Int32)), .null] rfl (lenOf pd_8 rfl) rfl (Nat.le_of_eq rfl) (by decide) (by decide) d_jdk_42m155_5 rfl ?_
    intro v223 T223 q223 D223
    subst q223
    show Go p e below _ (T223.setTop (mkF m 8 #[.val (.int (0 : Int32)), .val (.int (1 : Int32))] [(.int (0 : Int32))]))
    refine g_pop D223 9 d_jdk_42m155_8 rfl rfl ?_
    exact r_V D223 hret hlk d_jdk_42m155_9 ⟨rfl, rfl, rfl⟩ (by decide) (by decide)
set_option maxRecDepth 65536 in
set_option maxHeartbeats 40000000 in
theorem cLCh_1_0 (l : Launch) (Z : State) (a0 : Array Value) (hw : ∀ d ∈ tables_1, d.before a0 Z = true) (ws : List Jvm.Cond) (t : Addr) (kb : ClassId) (fm : Value) (c0 : Int32) (h0 : Heap) (n0 : Nat) (Z0 : n0 ≤ h0.size) (OLD : Old Z n0 h0) (SFm : Sta Z Z.heap "jdk/internal/util/Preconditions" "SIOOBE_FORMATTER" "Ljava/util/function/BiFunction;" fm) (rfm : fm.isRef = true) (V_t : Arv Z h0 t kb .byte (1 : Int32) [(.int (StrChars.lo8 c0))] (.int (0 : Int32)))  (Hi : C16 c0) (Ui : ¬ (255 : Int32) < c0) :
    Con l (⟨"java/lang/StringLatin1", "charAt", "([BI)C"⟩ : MethodName) jdk_43_method_2_code 2 (some .char) ws ({ frames := 2, cells := 0, slots := 0, locals := 27 } : Room) Z #[(.ref t), (.int (0 : Int32))] h0 (fun v h L => v = some (.int c0) ∧ L = [] ∧ h = h0) 0 0 := by
  refine enter (plainFor_of_name pn_3) ?_
  intro p e s m below meth c s₁ hnm hret hlk D0
  rw [ef_cLCh_1_0 m t]
  refine g_iloadN D0 1 d_jdk_43m2_0 rfl rfl ?_
  refine g_aloadN D0 2 d_jdk_43m2_1 rfl rfl rfl ?_
  refine g_alen D0 3 V_t d_jdk_43m2_2 rfl ?_
  refine g_callSp D0 6 (hw _ w_76) (hw _ w_77) (hw _ w_3) (hw _ w_78) (by decide) ((cSCI_1_0 l Z a0 hw [] fm h0 n0 Z0 OLD SFm rfm).back D0 0 (hw _ w_78) (hw _ w_3) (by decide) (by decide)) rfl [(.int (0 : Int32)), (.int (1 : Int32))] rfl (lenOf pd_9 rfl) rfl (Nat.le_of_eq rfl) (by decide) (by decide) d_jdk_43m2_3 rfl ?_
  intro v224 T224 q224 D224
  subst q224
  show Go p e below _ (T224.setTop (mkF m 6 #[.val (.ref t), .val (.int (0 : Int32))] []))
  refine g_aloadN D224 7 d_jdk_43m2_6 rfl rfl rfl ?_
  refine g_iloadN D224 8 d_jdk_43m2_7 rfl rfl ?_
  refine g_baload D224 9 V_t (v := (.int (StrChars.lo8 c0))) ⟨by decide, by decide⟩ rfl d_jdk_43m2_8 rfl ?_
  refine g_sipush D224 12 (255 : Int32) d_jdk_43m2_9 rfl rfl ?_
  refine g_iand D224 13 d_jdk_43m2_12 rfl ?_
  refine g_i2c D224 14 d_jdk_43m2_13 rfl ?_
  exact r_N D224 hret (by simp) hlk d_jdk_43m2_14 ⟨congrArg (fun z => some (Value.int z)) (lch_says Hi Ui), rfl, rfl⟩ (by decide) (by decide)
set_option maxRecDepth 65536 in
set_option maxHeartbeats 40000000 in
theorem cUCI_1_0 (l : Launch) (Z : State) (a0 : Array Value) (hw : ∀ d ∈ tables_1, d.before a0 Z = true) (ws : List Jvm.Cond) (t : Addr) (kb : ClassId) (vs : List Value) (fm : Value) (h0 : Heap) (n0 : Nat) (Z0 : n0 ≤ h0.size) (OLD : Old Z n0 h0) (SFm : Sta Z Z.heap "jdk/internal/util/Preconditions" "SIOOBE_FORMATTER" "Ljava/util/function/BiFunction;" fm) (rfm : fm.isRef = true) (V_t : Arv Z h0 t kb .byte (2 : Int32) vs (.int (0 : Int32))) :
    Con l (⟨"java/lang/StringUTF16", "checkIndex", "(I[B)V"⟩ : MethodName) jdk_52_method_91_code 2 none ws ({ frames := 2, cells := 0, slots := 0, locals := 27 } : Room) Z #[(.int (0 : Int32)), (.ref t)] h0 (fun v h L => v = none ∧ L = [] ∧ h = h0) 0 0 := by
  refine enter (plainFor_of_name pn_0) ?_
  intro p e s m below meth c s₁ hnm hret hlk D0
  rw [ef_cUCI_1_0 m t]
  refine g_iloadN D0 1 d_jdk_52m91_0 rfl rfl ?_
  refine g_aloadN D0 2 d_jdk_52m91_1 rfl rfl rfl ?_
  refine g_callSp D0 5 (hw _ w_110) (hw _ w_111) (hw _ w_50) (hw _ w_112) (by decide) ((cUL_1 l Z a0 hw [] t kb vs h0 n0 Z0 V_t).back D0 1 (hw _ w_112) (hw _ w_50) (by decide) (by decide)) rfl [(.ref t)] rfl (lenOf pd_10 rfl) rfl (Nat.le_of_eq rfl) (by decide) (by decide) d_jdk_52m91_2 rfl ?_
  intro v225 T225 q225 D225
  subst q225
  show Go p e below _ (T225.setTop (mkF m 5 #[.val (.int (0 : Int32)), .val (.ref t)] [(.int (1 : Int32)), (.int (0 : Int32))]))
  refine g_callSp D225 8 (hw _ w_113) (hw _ w_77) (hw _ w_3) (hw _ w_78) (by decide) ((cSCI_1_0 l Z a0 hw [] fm h0 n0 Z0 OLD SFm rfm).back D225 0 (hw _ w_78) (hw _ w_3) (by decide) (by decide)) rfl [(.int (0 : Int32)), (.int (1 : Int32))] rfl (lenOf pd_9 rfl) rfl (Nat.le_of_eq rfl) (by decide) (by decide) d_jdk_52m91_5 rfl ?_
  intro v226 T226 q226 D226
  subst q226
  show Go p e below _ (T226.setTop (mkF m 8 #[.val (.int (0 : Int32)), .val (.ref t)] []))
  exact r_V D226 hret hlk d_jdk_52m91_8 ⟨rfl, rfl, rfl⟩ (by decide) (by decide)
set_option maxRecDepth 65536 in
set_option maxHeartbeats 40000000 in
theorem cUCh_1_0 (l : Launch) (Z : State) (a0 : Array Value) (hw : ∀ d ∈ tables_1, d.before a0 Z = true) (ws : List Jvm.Cond) (t : Addr) (kb : ClassId) (fm : Value) (c0 : Int32) (h0 : Heap) (n0 : Nat) (Z0 : n0 ≤ h0.size) (OLD : Old Z n0 h0) (SA : Sta Z Z.heap "java/lang/StringUTF16" "$assertionsDisabled" "Z" (.int (1 : Int32))) (SH : Sta Z Z.heap "java/lang/StringUTF16" "HI_BYTE_SHIFT" "I" (.int (0 : Int32))) (SL : Sta Z Z.heap "java/lang/StringUTF16" "LO_BYTE_SHIFT" "I" (.int (8 : Int32))) (SFm : Sta Z Z.heap "jdk/internal/util/Preconditions" "SIOOBE_FORMATTER" "Ljava/util/function/BiFunction;" fm) (rfm : fm.isRef = true) (V_t : Arv Z h0 t kb .byte (2 : Int32) (StrChars.Road.wideBytes [c0]) (.int (0 : Int32)))  (Hi : C16 c0) :
    Con l (⟨"java/lang/StringUTF16", "charAt", "([BI)C"⟩ : MethodName) jdk_52_method_83_code 2 (some .char) ws ({ frames := 3, cells := 0, slots := 0, locals := 40 } : Room) Z #[(.ref t), (.int (0 : Int32))] h0 (fun v h L => v = some (.int c0) ∧ L = [] ∧ h = h0) 0 0 := by
  refine enter (plainFor_of_name pn_0) ?_
  intro p e s m below meth c s₁ hnm hret hlk D0
  rw [ef_cUCh_1_0 m t]
  refine g_iloadN D0 1 d_jdk_52m83_0 rfl rfl ?_
  refine g_aloadN D0 2 d_jdk_52m83_1 rfl rfl rfl ?_
  refine g_callSp D0 5 (hw _ w_107) (hw _ w_108) (hw _ w_50) (hw _ w_109) (by decide) ((cUCI_1_0 l Z a0 hw [] t kb _ fm h0 n0 Z0 OLD SFm rfm V_t).back D0 0 (hw _ w_109) (hw _ w_50) (by decide) (by decide)) rfl [(.int (0 : Int32)), (.ref t)] rfl (lenOf pd_11 rfl) rfl (Nat.le_of_eq rfl) (by decide) (by decide) d_jdk_52m83_2 rfl ?_
  intro v227 T227 q227 D227
  subst q227
  show Go p e below _ (T227.setTop (mkF m 5 #[.val (.ref t), .val (.int (0 : Int32))] []))
  refine g_aloadN D227 6 d_jdk_52m83_5 rfl rfl rfl ?_
  refine g_iloadN D227 7 d_jdk_52m83_6 rfl rfl ?_
  refine g_callSp D227 10 (hw _ w_101) (hw _ w_102) (hw _ w_50) (hw _ w_103) (by decide) ((cGet_1_0 l Z a0 hw [] t kb c0 h0 n0 Z0 OLD SA SH SL V_t Hi).back D227 0 (hw _ w_103) (hw _ w_50) (by decide) (by decide)) rfl [(.ref t), (.int (0 : Int32))] rfl (lenOf pd_5 rfl) rfl (Nat.le_of_eq rfl) (by decide) (by decide) d_jdk_52m83_7 rfl ?_
  intro v228 T228 q228 D228
  subst q228
  show Go p e below _ (T228.setTop (mkF m 10 #[.val (.ref t), .val (.int (0 : Int32))] [(.int c0)]))
  exact r_N D228 hret (by simp) hlk d_jdk_52m83_10 ⟨congrArg (fun z => some (Value.int z)) (nar16 Hi), rfl, rfl⟩ (by decide) (by decide)
set_option maxRecDepth 65536 in
set_option maxHeartbeats 40000000 in
theorem cSCh_1_0 (l : Launch) (Z : State) (a0 : Array Value) (hw : ∀ d ∈ tables_1, d.before a0 Z = true) (ws : List Jvm.Cond) (x : Addr) (zc : Int32) (fm : Value) (c0 : Int32) (h0 : Heap) (n0 : Nat) (Z0 : n0 ≤ h0.size) (OLD : Old Z n0 h0) (SA : Sta Z Z.heap "java/lang/StringUTF16" "$assertionsDisabled" "Z" (.int (1 : Int32))) (SH : Sta Z Z.heap "java/lang/StringUTF16" "HI_BYTE_SHIFT" "I" (.int (0 : Int32))) (SL : Sta Z Z.heap "java/lang/StringUTF16" "LO_BYTE_SHIFT" "I" (.int (8 : Int32))) (CS : Sta Z Z.heap "java/lang/String" "COMPACT_STRINGS" "Z" (.int zc)) (hzc : ¬ zc = 0) (SFm : Sta Z Z.heap "jdk/internal/util/Preconditions" "SIOOBE_FORMATTER" "Ljava/util/function/BiFunction;" fm) (rfm : fm.isRef = true) (X_x : TS Z h0 x [c0]) :
    Con l (⟨"java/lang/String", "charAt", "(I)C"⟩ : MethodName) jdk_42_method_56_code 2 (some .char) ws ({ frames := 4, cells := 0, slots := 0, locals := 53 } : Room) Z #[(.ref x), (.int (0 : Int32))] h0 (fun v h L => v = some (.int c0) ∧ L = [] ∧ h = h0) 0 0 := by
  refine enter (plainFor_of_name pn_1) ?_
  intro p e s m below meth c s₁ hnm hret hlk D0
  rw [ef_cSCh_1_0 m x]
  obtain ⟨t, kb, cd, N2, vs, f1, f2, f3, f4, f5, f6, -⟩ := X_x
  have Hi := f6 c0 (List.mem_of_getElem? (i := 0) rfl)
  rcases f5 with ⟨rfl, rfl, rfl, fu⟩ | ⟨rfl, rfl, rfl, fe⟩
  · refine g_aloadN D0 1 d_jdk_42m56_0 rfl rfl rfl ?_
    refine g_callVp D0 4 (hw _ w_67) (hw _ w_68) (notFace_of_selects (args := #[]) (mvT D0.wm (hw _ w_70))) (hw _ w_70) (hw _ w_69) (by decide) ((cIL_0 l Z a0 hw [] x zc h0 n0 Z0 OLD CS hzc f2).back D0 0 (hw _ w_71) (hw _ w_3) (by decide) (by decide)) f1 rfl [] rfl (lenOf pd_12 rfl) rfl (Nat.le_of_eq rfl) (by decide) (by decide) d_jdk_42m56_1 rfl ?_
    intro v229 T229 q229 D229
    subst q229
    show Go p e below _ (T229.setTop (mkF m 4 #[.val (.ref x), .val (.int (0 : Int32))] [(.int (1 : Int32))]))
    refine g_ifN D229 7 d_jdk_42m56_4 (by decide) rfl ?_
    refine g_aloadN D229 8 d_jdk_42m56_7 rfl rfl rfl ?_
    refine g_getF D229 11 (hw _ w_21) Via.refl f3 d_jdk_42m56_8 rfl ?_
    intro T230 D230
    refine g_iloadN D230 12 d_jdk_42m56_11 rfl rfl ?_
    refine g_callSp D230 15 (hw _ w_72) (hw _ w_73) (hw _ w_74) (hw _ w_75) (by decide) ((cLCh_1_0 l Z a0 hw [] t kb fm c0 h0 n0 Z0 OLD SFm rfm f4 Hi (fu c0 (List.mem_of_getElem? (i := 0) rfl))).back D230 0 (hw _ w_75) (hw _ w_74) (by decide) (by decide)) rfl [(.ref t), (.int (0 : Int32))] rfl (lenOf pd_5 rfl) rfl (Nat.le_of_eq rfl) (by decide) (by decide) d_jdk_42m56_12 rfl ?_
    intro v231 T231 q231 D231
    subst q231
    show Go p e below _ (T231.setTop (mkF m 15 #[.val (.ref x), .val (.int (0 : Int32))] [(.int c0)]))
    exact r_N D231 hret (by simp) hlk d_jdk_42m56_15 ⟨congrArg (fun z => some (Value.int z)) (nar16 Hi), rfl, rfl⟩ (by decide) (by decide)
  · refine g_aloadN D0 1 d_jdk_42m56_0 rfl rfl rfl ?_
    refine g_callVp D0 4 (hw _ w_67) (hw _ w_68) (notFace_of_selects (args := #[]) (mvT D0.wm (hw _ w_70))) (hw _ w_70) (hw _ w_69) (by decide) ((cIL_1 l Z a0 hw [] x zc h0 n0 Z0 OLD CS hzc f2).back D0 0 (hw _ w_71) (hw _ w_3) (by decide) (by decide)) f1 rfl [] rfl (lenOf pd_12 rfl) rfl (Nat.le_of_eq rfl) (by decide) (by decide) d_jdk_42m56_1 rfl ?_
    intro v232 T232 q232 D232
    subst q232
    show Go p e below _ (T232.setTop (mkF m 4 #[.val (.ref x), .val (.int (0 : Int32))] [(.int (0 : Int32))]))
    refine g_ifY D232 16 d_jdk_42m56_4 (by decide) (by decide) (by decide) ?_
    refine g_aloadN D232 17 d_jdk_42m56_16 rfl rfl rfl ?_
    refine g_getF D232 20 (hw _ w_21) Via.refl f3 d_jdk_42m56_17 rfl ?_
    intro T233 D233
    refine g_iloadN D233 21 d_jdk_42m56_20 rfl rfl ?_
    refine g_callSp D233 24 (hw _ w_104) (hw _ w_105) (hw _ w_50) (hw _ w_106) (by decide) ((cUCh_1_0 l Z a0 hw [] t kb fm c0 h0 n0 Z0 OLD SA SH SL SFm rfm f4 Hi).back D233 0 (hw _ w_106) (hw _ w_50) (by decide) (by decide)) rfl [(.ref t), (.int (0 : Int32))] rfl (lenOf pd_5 rfl) rfl (Nat.le_of_eq rfl) (by decide) (by decide) d_jdk_42m56_21 rfl ?_
    intro v234 T234 q234 D234
    subst q234
    show Go p e below _ (T234.setTop (mkF m 24 #[.val (.ref x), .val (.int (0 : Int32))] [(.int c0)]))
    exact r_N D234 hret (by simp) hlk d_jdk_42m56_24 ⟨congrArg (fun z => some (Value.int z)) (nar16 Hi), rfl, rfl⟩ (by decide) (by decide)
set_option maxRecDepth 65536 in
set_option maxHeartbeats 40000000 in
theorem cUL_2 (l : Launch) (Z : State) (a0 : Array Value) (hw : ∀ d ∈ tables_1, d.before a0 Z = true) (ws : List Jvm.Cond) (t : Addr) (kb : ClassId) (vs : List Value) (h0 : Heap) (n0 : Nat) (Z0 : n0 ≤ h0.size) (V_t : Arv Z h0 t kb .byte (4 : Int32) vs (.int (0 : Int32))) :
    Con l (⟨"java/lang/StringUTF16", "length", "([B)I"⟩ : MethodName) jdk_52_method_6_code 1 (some .int) ws ({ frames := 0, cells := 0, slots := 0, locals := 0 } : Room) Z #[(.ref t)] h0 (fun v h L => v = some (.int (2 : Int32)) ∧ L = [] ∧ h = h0) 0 0 := by
  refine enter (plainFor_of_name pn_0) ?_
  intro p e s m below meth c s₁ hnm hret hlk D0
  rw [ef_cUL_2 m t]
  refine g_aloadN D0 1 d_jdk_52m6_0 rfl rfl rfl ?_
  refine g_alen D0 2 V_t d_jdk_52m6_1 rfl ?_
  refine g_iconst D0 3 (1 : Int32) d_jdk_52m6_2 rfl rfl ?_
  refine g_ishr D0 4 d_jdk_52m6_3 rfl ?_
  rw [show ((4 : Int32) >>> ((1 : Int32) &&& 31)) = (2 : Int32) from by decide]
  exact r_I D0 hret hlk d_jdk_52m6_4 ⟨rfl, rfl, rfl⟩ (by decide) (by decide)
set_option maxRecDepth 65536 in
set_option maxHeartbeats 40000000 in
theorem cPCI_2_0_r (l : Launch) (Z : State) (a0 : Array Value) (hw : ∀ d ∈ tables_1, d.before a0 Z = true) (ws : List Jvm.Cond) (fa : Addr) (h0 : Heap) (n0 : Nat) (Z0 : n0 ≤ h0.size)  :
    Con l (⟨"jdk/internal/util/Preconditions", "checkIndex", "(IILjava/util/function/BiFunction;)I"⟩ : MethodName) jdk_41_method_11_code 3 (some .int) ws ({ frames := 0, cells := 0, slots := 0, locals := 0 } : Room) Z #[(.int (0 : Int32)), (.int (2 : Int32)), (.ref fa)] h0 (fun v h L => v = some (.int (0 : Int32)) ∧ L = [] ∧ h = h0) 0 0 := by
  refine enter (plainFor_of_name pn_2) ?_
  intro p e s m below meth c s₁ hnm hret hlk D0
  rw [ef_cPCI_2_0_r m fa]
  refine g_iloadN D0 1 d_jdk_41m11_0 rfl rfl ?_
  refine g_ifN D0 4 d_jdk_41m11_1 (by decide) rfl ?_
  refine g_iloadN D0 5 d_jdk_41m11_4 rfl rfl ?_
  refine g_iloadN D0 6 d_jdk_41m11_5 rfl rfl ?_
  refine g_icmpY D0 16 d_jdk_41m11_6 (by decide) (by decide) (by decide) ?_
  refine g_iloadN D0 17 d_jdk_41m11_16 rfl rfl ?_
  exact r_I D0 hret hlk d_jdk_41m11_17 ⟨rfl, rfl, rfl⟩ (by decide) (by decide)
set_option maxRecDepth 65536 in
set_option maxHeartbeats 40000000 in
theorem cPCI_2_0_n (l : Launch) (Z : State) (a0 : Array Value) (hw : ∀ d ∈ tables_1, d.before a0 Z = true) (ws : List Jvm.Cond)  (h0 : Heap) (n0 : Nat) (Z0 : n0 ≤ h0.size)  :
    Con l (⟨"jdk/internal/util/Preconditions", "checkIndex", "(IILjava/util/function/BiFunction;)I"⟩ : MethodName) jdk_41_method_11_code 3 (some .int) ws ({ frames := 0, cells := 0, slots := 0, locals := 0 } : Room) Z #[(.int (0 : Int32)), (.int (2 : Int32)), .null] h0 (fun v h L => v = some (.int (0 : Int32)) ∧ L = [] ∧ h = h0) 0 0 := by
  refine enter (plainFor_of_name pn_2) ?_
  intro p e s m below meth c s₁ hnm hret hlk D0
  rw [ef_cPCI_2_0_n m]
  refine g_iloadN D0 1 d_jdk_41m11_0 rfl rfl ?_
  refine g_ifN D0 4 d_jdk_41m11_1 (by decide) rfl ?_
  refine g_iloadN D0 5 d_jdk_41m11_4 rfl rfl ?_
  refine g_iloadN D0 6 d_jdk_41m11_5 rfl rfl ?_
  refine g_icmpY D0 16 d_jdk_41m11_6 (by decide) (by decide) (by decide) ?_
  refine g_iloadN D0 17 d_jdk_41m11_16 rfl rfl ?_
  exact r_I D0 hret hlk d_jdk_41m11_17 ⟨rfl, rfl, rfl⟩ (by decide) (by decide)
set_option maxRecDepth 65536 in
set_option maxHeartbeats 40000000 in
theorem cSCI_2_0 (l : Launch) (Z : State) (a0 : Array Value) (hw : ∀ d ∈ tables_1, d.before a0 Z = true) (ws : List Jvm.Cond) (fm : Value) (h0 : Heap) (n0 : Nat) (Z0 : n0 ≤ h0.size) (OLD : Old Z n0 h0) (SFm : Sta Z Z.heap "jdk/internal/util/Preconditions" "SIOOBE_FORMATTER" "Ljava/util/function/BiFunction;" fm) (rfm : fm.isRef = true) :
    Con l (⟨"java/lang/String", "checkIndex", "(II)V"⟩ : MethodName) jdk_42_method_155_code 2 none ws ({ frames := 1, cells := 0, slots := 0, locals := 14 } : Room) Z #[(.int (0 : Int32)), (.int (2 : Int32))] h0 (fun v h L => v = none ∧ L = [] ∧ h = h0) 0 0 := by
  refine enter (plainFor_of_name pn_1) ?_
  intro p e s m below meth c s₁ hnm hret hlk D0
  rw [ef_cSCI_2_0 m]
  obtain ⟨fa, rfl⟩ | rfl := ref_cases rfm
  · refine g_iloadN D0 1 d_jdk_42m155_0 rfl rfl ?_
    refine g_iloadN D0 2 d_jdk_42m155_1 rfl rfl ?_
    refine g_getS D0 5 (hw _ w_79) Via.refl (SFm.ext OLD.2) d_jdk_42m155_2 rfl ?_
    intro T235 D235
    refine g_callSp D235 8 (hw _ w_81) (hw _ w_82) (hw _ w_80) (hw _ w_83) (by decide) ((cPCI_2_0_r l Z a0 hw [] fa h0 n0 Z0).back D235 0 (hw _ w_83) (hw _ w_80) (by decide) (by decide)) rfl [(.int (0 : Int32)), (.int (2 : Int32)), (.ref fa)] rfl (lenOf pd_8 rfl) rfl (Nat.le_of_eq rfl) (by decide) (by decide) d_jdk_42m155_5 rfl ?_
    intro v236 T236 q236 D236
    subst q236
    show Go p e below _ (T236.setTop (mkF m 8 #[.val (.int (0 : Int32)), .val (.int (2 : Int32))] [(.int (0 : Int32))]))
    refine g_pop D236 9 d_jdk_42m155_8 rfl rfl ?_
    exact r_V D236 hret hlk d_jdk_42m155_9 ⟨rfl, rfl, rfl⟩ (by decide) (by decide)
  · refine g_iloadN D0 1 d_jdk_42m155_0 rfl rfl ?_
    refine g_iloadN D0 2 d_jdk_42m155_1 rfl rfl ?_
    refine g_getS D0 5 (hw _ w_79) Via.refl (SFm.ext OLD.2) d_jdk_42m155_2 rfl ?_
    intro T237 D237
    refine g_callSp D237 8 (hw _ w_81) (hw _ w_82) (hw _ w_80) (hw _ w_83) (by decide) ((cPCI_2_0_n l Z a0 hw [] h0 n0 Z0).back D237 0 (hw _ w_83) (hw _ w_80) (by decide) (by decide)) rfl [(.int (0 : Int32)), (.int (2 : Int32)), .null] rfl (lenOf pd_8 rfl) rfl (Nat.le_of_eq rfl) (by decide) (by decide) d_jdk_42m155_5 rfl ?_
    intro v238 T238 q238 D238
    subst q238
    show Go p e below _ (T238.setTop (mkF m 8 #[.val (.int (0 : Int32)), .val (.int (2 : Int32))] [(.int (0 : Int32))]))
    refine g_pop D238 9 d_jdk_42m155_8 rfl rfl ?_
    exact r_V D238 hret hlk d_jdk_42m155_9 ⟨rfl, rfl, rfl⟩ (by decide) (by decide)
set_option maxRecDepth 65536 in
set_option maxHeartbeats 40000000 in
theorem cLCh_2_0 (l : Launch) (Z : State) (a0 : Array Value) (hw : ∀ d ∈ tables_1, d.before a0 Z = true) (ws : List Jvm.Cond) (t : Addr) (kb : ClassId) (fm : Value) (c0 c1 : Int32) (h0 : Heap) (n0 : Nat) (Z0 : n0 ≤ h0.size) (OLD : Old Z n0 h0) (SFm : Sta Z Z.heap "jdk/internal/util/Preconditions" "SIOOBE_FORMATTER" "Ljava/util/function/BiFunction;" fm) (rfm : fm.isRef = true) (V_t : Arv Z h0 t kb .byte (2 : Int32) [(.int (StrChars.lo8 c0)), (.int (StrChars.lo8 c1))] (.int (0 : Int32)))  (Hi : C16 c0) (Ui : ¬ (255 : Int32) < c0) :
    Con l (⟨"java/lang/StringLatin1", "charAt", "([BI)C"⟩ : MethodName) jdk_43_method_2_code 2 (some .char) ws ({ frames := 2, cells := 0, slots := 0, locals := 27 } : Room) Z #[(.ref t), (.int (0 : Int32))] h0 (fun v h L => v = some (.int c0) ∧ L = [] ∧ h = h0) 0 0 := by
  refine enter (plainFor_of_name pn_3) ?_
  intro p e s m below meth c s₁ hnm hret hlk D0
  rw [ef_cLCh_2_0 m t]
  refine g_iloadN D0 1 d_jdk_43m2_0 rfl rfl ?_
  refine g_aloadN D0 2 d_jdk_43m2_1 rfl rfl rfl ?_
  refine g_alen D0 3 V_t d_jdk_43m2_2 rfl ?_
  refine g_callSp D0 6 (hw _ w_76) (hw _ w_77) (hw _ w_3) (hw _ w_78) (by decide) ((cSCI_2_0 l Z a0 hw [] fm h0 n0 Z0 OLD SFm rfm).back D0 0 (hw _ w_78) (hw _ w_3) (by decide) (by decide)) rfl [(.int (0 : Int32)), (.int (2 : Int32))] rfl (lenOf pd_9 rfl) rfl (Nat.le_of_eq rfl) (by decide) (by decide) d_jdk_43m2_3 rfl ?_
  intro v239 T239 q239 D239
  subst q239
  show Go p e below _ (T239.setTop (mkF m 6 #[.val (.ref t), .val (.int (0 : Int32))] []))
  refine g_aloadN D239 7 d_jdk_43m2_6 rfl rfl rfl ?_
  refine g_iloadN D239 8 d_jdk_43m2_7 rfl rfl ?_
  refine g_baload D239 9 V_t (v := (.int (StrChars.lo8 c0))) ⟨by decide, by decide⟩ rfl d_jdk_43m2_8 rfl ?_
  refine g_sipush D239 12 (255 : Int32) d_jdk_43m2_9 rfl rfl ?_
  refine g_iand D239 13 d_jdk_43m2_12 rfl ?_
  refine g_i2c D239 14 d_jdk_43m2_13 rfl ?_
  exact r_N D239 hret (by simp) hlk d_jdk_43m2_14 ⟨congrArg (fun z => some (Value.int z)) (lch_says Hi Ui), rfl, rfl⟩ (by decide) (by decide)
set_option maxRecDepth 65536 in
set_option maxHeartbeats 40000000 in
theorem cUCI_2_0 (l : Launch) (Z : State) (a0 : Array Value) (hw : ∀ d ∈ tables_1, d.before a0 Z = true) (ws : List Jvm.Cond) (t : Addr) (kb : ClassId) (vs : List Value) (fm : Value) (h0 : Heap) (n0 : Nat) (Z0 : n0 ≤ h0.size) (OLD : Old Z n0 h0) (SFm : Sta Z Z.heap "jdk/internal/util/Preconditions" "SIOOBE_FORMATTER" "Ljava/util/function/BiFunction;" fm) (rfm : fm.isRef = true) (V_t : Arv Z h0 t kb .byte (4 : Int32) vs (.int (0 : Int32))) :
    Con l (⟨"java/lang/StringUTF16", "checkIndex", "(I[B)V"⟩ : MethodName) jdk_52_method_91_code 2 none ws ({ frames := 2, cells := 0, slots := 0, locals := 27 } : Room) Z #[(.int (0 : Int32)), (.ref t)] h0 (fun v h L => v = none ∧ L = [] ∧ h = h0) 0 0 := by
  refine enter (plainFor_of_name pn_0) ?_
  intro p e s m below meth c s₁ hnm hret hlk D0
  rw [ef_cUCI_2_0 m t]
  refine g_iloadN D0 1 d_jdk_52m91_0 rfl rfl ?_
  refine g_aloadN D0 2 d_jdk_52m91_1 rfl rfl rfl ?_
  refine g_callSp D0 5 (hw _ w_110) (hw _ w_111) (hw _ w_50) (hw _ w_112) (by decide) ((cUL_2 l Z a0 hw [] t kb vs h0 n0 Z0 V_t).back D0 1 (hw _ w_112) (hw _ w_50) (by decide) (by decide)) rfl [(.ref t)] rfl (lenOf pd_10 rfl) rfl (Nat.le_of_eq rfl) (by decide) (by decide) d_jdk_52m91_2 rfl ?_
  intro v240 T240 q240 D240
  subst q240
  show Go p e below _ (T240.setTop (mkF m 5 #[.val (.int (0 : Int32)), .val (.ref t)] [(.int (2 : Int32)), (.int (0 : Int32))]))
  refine g_callSp D240 8 (hw _ w_113) (hw _ w_77) (hw _ w_3) (hw _ w_78) (by decide) ((cSCI_2_0 l Z a0 hw [] fm h0 n0 Z0 OLD SFm rfm).back D240 0 (hw _ w_78) (hw _ w_3) (by decide) (by decide)) rfl [(.int (0 : Int32)), (.int (2 : Int32))] rfl (lenOf pd_9 rfl) rfl (Nat.le_of_eq rfl) (by decide) (by decide) d_jdk_52m91_5 rfl ?_
  intro v241 T241 q241 D241
  subst q241
  show Go p e below _ (T241.setTop (mkF m 8 #[.val (.int (0 : Int32)), .val (.ref t)] []))
  exact r_V D241 hret hlk d_jdk_52m91_8 ⟨rfl, rfl, rfl⟩ (by decide) (by decide)
set_option maxRecDepth 65536 in
set_option maxHeartbeats 40000000 in
theorem cUCh_2_0 (l : Launch) (Z : State) (a0 : Array Value) (hw : ∀ d ∈ tables_1, d.before a0 Z = true) (ws : List Jvm.Cond) (t : Addr) (kb : ClassId) (fm : Value) (c0 c1 : Int32) (h0 : Heap) (n0 : Nat) (Z0 : n0 ≤ h0.size) (OLD : Old Z n0 h0) (SA : Sta Z Z.heap "java/lang/StringUTF16" "$assertionsDisabled" "Z" (.int (1 : Int32))) (SH : Sta Z Z.heap "java/lang/StringUTF16" "HI_BYTE_SHIFT" "I" (.int (0 : Int32))) (SL : Sta Z Z.heap "java/lang/StringUTF16" "LO_BYTE_SHIFT" "I" (.int (8 : Int32))) (SFm : Sta Z Z.heap "jdk/internal/util/Preconditions" "SIOOBE_FORMATTER" "Ljava/util/function/BiFunction;" fm) (rfm : fm.isRef = true) (V_t : Arv Z h0 t kb .byte (4 : Int32) (StrChars.Road.wideBytes [c0, c1]) (.int (0 : Int32)))  (Hi : C16 c0) :
    Con l (⟨"java/lang/StringUTF16", "charAt", "([BI)C"⟩ : MethodName) jdk_52_method_83_code 2 (some .char) ws ({ frames := 3, cells := 0, slots := 0, locals := 40 } : Room) Z #[(.ref t), (.int (0 : Int32))] h0 (fun v h L => v = some (.int c0) ∧ L = [] ∧ h = h0) 0 0 := by
  refine enter (plainFor_of_name pn_0) ?_
  intro p e s m below meth c s₁ hnm hret hlk D0
  rw [ef_cUCh_2_0 m t]
  refine g_iloadN D0 1 d_jdk_52m83_0 rfl rfl ?_
  refine g_aloadN D0 2 d_jdk_52m83_1 rfl rfl rfl ?_
  refine g_callSp D0 5 (hw _ w_107) (hw _ w_108) (hw _ w_50) (hw _ w_109) (by decide) ((cUCI_2_0 l Z a0 hw [] t kb _ fm h0 n0 Z0 OLD SFm rfm V_t).back D0 0 (hw _ w_109) (hw _ w_50) (by decide) (by decide)) rfl [(.int (0 : Int32)), (.ref t)] rfl (lenOf pd_11 rfl) rfl (Nat.le_of_eq rfl) (by decide) (by decide) d_jdk_52m83_2 rfl ?_
  intro v242 T242 q242 D242
  subst q242
  show Go p e below _ (T242.setTop (mkF m 5 #[.val (.ref t), .val (.int (0 : Int32))] []))
  refine g_aloadN D242 6 d_jdk_52m83_5 rfl rfl rfl ?_
  refine g_iloadN D242 7 d_jdk_52m83_6 rfl rfl ?_
  refine g_callSp D242 10 (hw _ w_101) (hw _ w_102) (hw _ w_50) (hw _ w_103) (by decide) ((cGet_2_0 l Z a0 hw [] t kb c0 c1 h0 n0 Z0 OLD SA SH SL V_t Hi).back D242 0 (hw _ w_103) (hw _ w_50) (by decide) (by decide)) rfl [(.ref t), (.int (0 : Int32))] rfl (lenOf pd_5 rfl) rfl (Nat.le_of_eq rfl) (by decide) (by decide) d_jdk_52m83_7 rfl ?_
  intro v243 T243 q243 D243
  subst q243
  show Go p e below _ (T243.setTop (mkF m 10 #[.val (.ref t), .val (.int (0 : Int32))] [(.int c0)]))
  exact r_N D243 hret (by simp) hlk d_jdk_52m83_10 ⟨congrArg (fun z => some (Value.int z)) (nar16 Hi), rfl, rfl⟩ (by decide) (by decide)
set_option maxRecDepth 65536 in
set_option maxHeartbeats 40000000 in
theorem cSCh_2_0 (l : Launch) (Z : State) (a0 : Array Value) (hw : ∀ d ∈ tables_1, d.before a0 Z = true) (ws : List Jvm.Cond) (x : Addr) (zc : Int32) (fm : Value) (c0 c1 : Int32) (h0 : Heap) (n0 : Nat) (Z0 : n0 ≤ h0.size) (OLD : Old Z n0 h0) (SA : Sta Z Z.heap "java/lang/StringUTF16" "$assertionsDisabled" "Z" (.int (1 : Int32))) (SH : Sta Z Z.heap "java/lang/StringUTF16" "HI_BYTE_SHIFT" "I" (.int (0 : Int32))) (SL : Sta Z Z.heap "java/lang/StringUTF16" "LO_BYTE_SHIFT" "I" (.int (8 : Int32))) (CS : Sta Z Z.heap "java/lang/String" "COMPACT_STRINGS" "Z" (.int zc)) (hzc : ¬ zc = 0) (SFm : Sta Z Z.heap "jdk/internal/util/Preconditions" "SIOOBE_FORMATTER" "Ljava/util/function/BiFunction;" fm) (rfm : fm.isRef = true) (X_x : TS Z h0 x [c0, c1]) :
    Con l (⟨"java/lang/String", "charAt", "(I)C"⟩ : MethodName) jdk_42_method_56_code 2 (some .char) ws ({ frames := 4, cells := 0, slots := 0, locals := 53 } : Room) Z #[(.ref x), (.int (0 : Int32))] h0 (fun v h L => v = some (.int c0) ∧ L = [] ∧ h = h0) 0 0 := by
  refine enter (plainFor_of_name pn_1) ?_
  intro p e s m below meth c s₁ hnm hret hlk D0
  rw [ef_cSCh_2_0 m x]
  obtain ⟨t, kb, cd, N2, vs, f1, f2, f3, f4, f5, f6, -⟩ := X_x
  have Hi := f6 c0 (List.mem_of_getElem? (i := 0) rfl)
  rcases f5 with ⟨rfl, rfl, rfl, fu⟩ | ⟨rfl, rfl, rfl, fe⟩
  · refine g_aloadN D0 1 d_jdk_42m56_0 rfl rfl rfl ?_
    refine g_callVp D0 4 (hw _ w_67) (hw _ w_68) (notFace_of_selects (args := #[]) (mvT D0.wm (hw _ w_70))) (hw _ w_70) (hw _ w_69) (by decide) ((cIL_0 l Z a0 hw [] x zc h0 n0 Z0 OLD CS hzc f2).back D0 0 (hw _ w_71) (hw _ w_3) (by decide) (by decide)) f1 rfl [] rfl (lenOf pd_12 rfl) rfl (Nat.le_of_eq rfl) (by decide) (by decide) d_jdk_42m56_1 rfl ?_
    intro v244 T244 q244 D244
    subst q244
    show Go p e below _ (T244.setTop (mkF m 4 #[.val (.ref x), .val (.int (0 : Int32))] [(.int (1 : Int32))]))
    refine g_ifN D244 7 d_jdk_42m56_4 (by decide) rfl ?_
    refine g_aloadN D244 8 d_jdk_42m56_7 rfl rfl rfl ?_
    refine g_getF D244 11 (hw _ w_21) Via.refl f3 d_jdk_42m56_8 rfl ?_
    intro T245 D245
    refine g_iloadN D245 12 d_jdk_42m56_11 rfl rfl ?_
    refine g_callSp D245 15 (hw _ w_72) (hw _ w_73) (hw _ w_74) (hw _ w_75) (by decide) ((cLCh_2_0 l Z a0 hw [] t kb fm c0 c1 h0 n0 Z0 OLD SFm rfm f4 Hi (fu c0 (List.mem_of_getElem? (i := 0) rfl))).back D245 0 (hw _ w_75) (hw _ w_74) (by decide) (by decide)) rfl [(.ref t), (.int (0 : Int32))] rfl (lenOf pd_5 rfl) rfl (Nat.le_of_eq rfl) (by decide) (by decide) d_jdk_42m56_12 rfl ?_
    intro v246 T246 q246 D246
    subst q246
    show Go p e below _ (T246.setTop (mkF m 15 #[.val (.ref x), .val (.int (0 : Int32))] [(.int c0)]))
    exact r_N D246 hret (by simp) hlk d_jdk_42m56_15 ⟨congrArg (fun z => some (Value.int z)) (nar16 Hi), rfl, rfl⟩ (by decide) (by decide)
  · refine g_aloadN D0 1 d_jdk_42m56_0 rfl rfl rfl ?_
    refine g_callVp D0 4 (hw _ w_67) (hw _ w_68) (notFace_of_selects (args := #[]) (mvT D0.wm (hw _ w_70))) (hw _ w_70) (hw _ w_69) (by decide) ((cIL_1 l Z a0 hw [] x zc h0 n0 Z0 OLD CS hzc f2).back D0 0 (hw _ w_71) (hw _ w_3) (by decide) (by decide)) f1 rfl [] rfl (lenOf pd_12 rfl) rfl (Nat.le_of_eq rfl) (by decide) (by decide) d_jdk_42m56_1 rfl ?_
    intro v247 T247 q247 D247
    subst q247
    show Go p e below _ (T247.setTop (mkF m 4 #[.val (.ref x), .val (.int (0 : Int32))] [(.int (0 : Int32))]))
    refine g_ifY D247 16 d_jdk_42m56_4 (by decide) (by decide) (by decide) ?_
    refine g_aloadN D247 17 d_jdk_42m56_16 rfl rfl rfl ?_
    refine g_getF D247 20 (hw _ w_21) Via.refl f3 d_jdk_42m56_17 rfl ?_
    intro T248 D248
    refine g_iloadN D248 21 d_jdk_42m56_20 rfl rfl ?_
    refine g_callSp D248 24 (hw _ w_104) (hw _ w_105) (hw _ w_50) (hw _ w_106) (by decide) ((cUCh_2_0 l Z a0 hw [] t kb fm c0 c1 h0 n0 Z0 OLD SA SH SL SFm rfm f4 Hi).back D248 0 (hw _ w_106) (hw _ w_50) (by decide) (by decide)) rfl [(.ref t), (.int (0 : Int32))] rfl (lenOf pd_5 rfl) rfl (Nat.le_of_eq rfl) (by decide) (by decide) d_jdk_42m56_21 rfl ?_
    intro v249 T249 q249 D249
    subst q249
    show Go p e below _ (T249.setTop (mkF m 24 #[.val (.ref x), .val (.int (0 : Int32))] [(.int c0)]))
    exact r_N D249 hret (by simp) hlk d_jdk_42m56_24 ⟨congrArg (fun z => some (Value.int z)) (nar16 Hi), rfl, rfl⟩ (by decide) (by decide)
set_option maxRecDepth 65536 in
set_option maxHeartbeats 40000000 in
theorem cPCI_2_1_r (l : Launch) (Z : State) (a0 : Array Value) (hw : ∀ d ∈ tables_1, d.before a0 Z = true) (ws : List Jvm.Cond) (fa : Addr) (h0 : Heap) (n0 : Nat) (Z0 : n0 ≤ h0.size)  :
    Con l (⟨"jdk/internal/util/Preconditions", "checkIndex", "(IILjava/util/function/BiFunction;)I"⟩ : MethodName) jdk_41_method_11_code 3 (some .int) ws ({ frames := 0, cells := 0, slots := 0, locals := 0 } : Room) Z #[(.int (1 : Int32)), (.int (2 : Int32)), (.ref fa)] h0 (fun v h L => v = some (.int (1 : Int32)) ∧ L = [] ∧ h = h0) 0 0 := by
  refine enter (plainFor_of_name pn_2) ?_
  intro p e s m below meth c s₁ hnm hret hlk D0
  rw [ef_cPCI_2_1_r m fa]
  refine g_iloadN D0 1 d_jdk_41m11_0 rfl rfl ?_
  refine g_ifN D0 4 d_jdk_41m11_1 (by decide) rfl ?_
  refine g_iloadN D0 5 d_jdk_41m11_4 rfl rfl ?_
  refine g_iloadN D0 6 d_jdk_41m11_5 rfl rfl ?_
  refine g_icmpY D0 16 d_jdk_41m11_6 (by decide) (by decide) (by decide) ?_
  refine g_iloadN D0 17 d_jdk_41m11_16 rfl rfl ?_
  exact r_I D0 hret hlk d_jdk_41m11_17 ⟨rfl, rfl, rfl⟩ (by decide) (by decide)
set_option maxRecDepth 65536 in
set_option maxHeartbeats 40000000 in
theorem cPCI_2_1_n (l : Launch) (Z : State) (a0 : Array Value) (hw : ∀ d ∈ tables_1, d.before a0 Z = true) (ws : List Jvm.Cond)  (h0 : Heap) (n0 : Nat) (Z0 : n0 ≤ h0.size)  :
    Con l (⟨"jdk/internal/util/Preconditions", "checkIndex", "(IILjava/util/function/BiFunction;)I"⟩ : MethodName) jdk_41_method_11_code 3 (some .int) ws ({ frames := 0, cells := 0, slots := 0, locals := 0 } : Room) Z #[(.int (1 : Int32)), (.int (2 : Int32)), .null] h0 (fun v h L => v = some (.int (1 : Int32)) ∧ L = [] ∧ h = h0) 0 0 := by
  refine enter (plainFor_of_name pn_2) ?_
  intro p e s m below meth c s₁ hnm hret hlk D0
  rw [ef_cPCI_2_1_n m]
  refine g_iloadN D0 1 d_jdk_41m11_0 rfl rfl ?_
  refine g_ifN D0 4 d_jdk_41m11_1 (by decide) rfl ?_
  refine g_iloadN D0 5 d_jdk_41m11_4 rfl rfl ?_
  refine g_iloadN D0 6 d_jdk_41m11_5 rfl rfl ?_
  refine g_icmpY D0 16 d_jdk_41m11_6 (by decide) (by decide) (by decide) ?_
  refine g_iloadN D0 17 d_jdk_41m11_16 rfl rfl ?_
  exact r_I D0 hret hlk d_jdk_41m11_17 ⟨rfl, rfl, rfl⟩ (by decide) (by decide)
set_option maxRecDepth 65536 in
set_option maxHeartbeats 40000000 in
theorem cSCI_2_1 (l : Launch) (Z : State) (a0 : Array Value) (hw : ∀ d ∈ tables_1, d.before a0 Z = true) (ws : List Jvm.Cond) (fm : Value) (h0 : Heap) (n0 : Nat) (Z0 : n0 ≤ h0.size) (OLD : Old Z n0 h0) (SFm : Sta Z Z.heap "jdk/internal/util/Preconditions" "SIOOBE_FORMATTER" "Ljava/util/function/BiFunction;" fm) (rfm : fm.isRef = true) :
    Con l (⟨"java/lang/String", "checkIndex", "(II)V"⟩ : MethodName) jdk_42_method_155_code 2 none ws ({ frames := 1, cells := 0, slots := 0, locals := 14 } : Room) Z #[(.int (1 : Int32)), (.int (2 : Int32))] h0 (fun v h L => v = none ∧ L = [] ∧ h = h0) 0 0 := by
  refine enter (plainFor_of_name pn_1) ?_
  intro p e s m below meth c s₁ hnm hret hlk D0
  rw [ef_cSCI_2_1 m]
  obtain ⟨fa, rfl⟩ | rfl := ref_cases rfm
  · refine g_iloadN D0 1 d_jdk_42m155_0 rfl rfl ?_
    refine g_iloadN D0 2 d_jdk_42m155_1 rfl rfl ?_
    refine g_getS D0 5 (hw _ w_79) Via.refl (SFm.ext OLD.2) d_jdk_42m155_2 rfl ?_
    intro T250 D250
    refine g_callSp D250 8 (hw _ w_81) (hw _ w_82) (hw _ w_80) (hw _ w_83) (by decide) ((cPCI_2_1_r l Z a0 hw [] fa h0 n0 Z0).back D250 0 (hw _ w_83) (hw _ w_80) (by decide) (by decide)) rfl [(.int (1 : Int32)), (.int (2 : Int32)), (.ref fa)] rfl (lenOf pd_8 rfl) rfl (Nat.le_of_eq rfl) (by decide) (by decide) d_jdk_42m155_5 rfl ?_
    intro v251 T251 q251 D251
    subst q251
    show Go p e below _ (T251.setTop (mkF m 8 #[.val (.int (1 : Int32)), .val (.int (2 : Int32))] [(.int (1 : Int32))]))
    refine g_pop D251 9 d_jdk_42m155_8 rfl rfl ?_
    exact r_V D251 hret hlk d_jdk_42m155_9 ⟨rfl, rfl, rfl⟩ (by decide) (by decide)
  · refine g_iloadN D0 1 d_jdk_42m155_0 rfl rfl ?_
    refine g_iloadN D0 2 d_jdk_42m155_1 rfl rfl ?_
    refine g_getS D0 5 (hw _ w_79) Via.refl (SFm.ext OLD.2) d_jdk_42m155_2 rfl ?_
    intro T252 D252
    refine g_callSp D252 8 (hw _ w_81) (hw _ w_82) (hw _ w_80) (hw _ w_83) (by decide) ((cPCI_2_1_n l Z a0 hw [] h0 n0 Z0).back D252 0 (hw _ w_83) (hw _ w_80) (by decide) (by decide)) rfl [(.int (1 : Int32)), (.int (2 : Int32)), .null] rfl (lenOf pd_8 rfl) rfl (Nat.le_of_eq rfl) (by decide) (by decide) d_jdk_42m155_5 rfl ?_
    intro v253 T253 q253 D253
    subst q253
    show Go p e below _ (T253.setTop (mkF m 8 #[.val (.int (1 : Int32)), .val (.int (2 : Int32))] [(.int (1 : Int32))]))
    refine g_pop D253 9 d_jdk_42m155_8 rfl rfl ?_
    exact r_V D253 hret hlk d_jdk_42m155_9 ⟨rfl, rfl, rfl⟩ (by decide) (by decide)
set_option maxRecDepth 65536 in
set_option maxHeartbeats 40000000 in
theorem cLCh_2_1 (l : Launch) (Z : State) (a0 : Array Value) (hw : ∀ d ∈ tables_1, d.before a0 Z = true) (ws : List Jvm.Cond) (t : Addr) (kb : ClassId) (fm : Value) (c0 c1 : Int32) (h0 : Heap) (n0 : Nat) (Z0 : n0 ≤ h0.size) (OLD : Old Z n0 h0) (SFm : Sta Z Z.heap "jdk/internal/util/Preconditions" "SIOOBE_FORMATTER" "Ljava/util/function/BiFunction;" fm) (rfm : fm.isRef = true) (V_t : Arv Z h0 t kb .byte (2 : Int32) [(.int (StrChars.lo8 c0)), (.int (StrChars.lo8 c1))] (.int (0 : Int32)))  (Hi : C16 c1) (Ui : ¬ (255 : Int32) < c1) :
    Con l (⟨"java/lang/StringLatin1", "charAt", "([BI)C"⟩ : MethodName) jdk_43_method_2_code 2 (some .char) ws ({ frames := 2, cells := 0, slots := 0, locals := 27 } : Room) Z #[(.ref t), (.int (1 : Int32))] h0 (fun v h L => v = some (.int c1) ∧ L = [] ∧ h = h0) 0 0 := by
  refine enter (plainFor_of_name pn_3) ?_
  intro p e s m below meth c s₁ hnm hret hlk D0
  rw [ef_cLCh_2_1 m t]
  refine g_iloadN D0 1 d_jdk_43m2_0 rfl rfl ?_
  refine g_aloadN D0 2 d_jdk_43m2_1 rfl rfl rfl ?_
  refine g_alen D0 3 V_t d_jdk_43m2_2 rfl ?_
  refine g_callSp D0 6 (hw _ w_76) (hw _ w_77) (hw _ w_3) (hw _ w_78) (by decide) ((cSCI_2_1 l Z a0 hw [] fm h0 n0 Z0 OLD SFm rfm).back D0 0 (hw _ w_78) (hw _ w_3) (by decide) (by decide)) rfl [(.int (1 : Int32)), (.int (2 : Int32))] rfl (lenOf pd_9 rfl) rfl (Nat.le_of_eq rfl) (by decide) (by decide) d_jdk_43m2_3 rfl ?_
  intro v254 T254 q254 D254
  subst q254
  show Go p e below _ (T254.setTop (mkF m 6 #[.val (.ref t), .val (.int (1 : Int32))] []))
  refine g_aloadN D254 7 d_jdk_43m2_6 rfl rfl rfl ?_
  refine g_iloadN D254 8 d_jdk_43m2_7 rfl rfl ?_
  refine g_baload D254 9 V_t (v := (.int (StrChars.lo8 c1))) ⟨by decide, by decide⟩ rfl d_jdk_43m2_8 rfl ?_
  refine g_sipush D254 12 (255 : Int32) d_jdk_43m2_9 rfl rfl ?_
  refine g_iand D254 13 d_jdk_43m2_12 rfl ?_
  refine g_i2c D254 14 d_jdk_43m2_13 rfl ?_
  exact r_N D254 hret (by simp) hlk d_jdk_43m2_14 ⟨congrArg (fun z => some (Value.int z)) (lch_says Hi Ui), rfl, rfl⟩ (by decide) (by decide)
set_option maxRecDepth 65536 in
set_option maxHeartbeats 40000000 in
theorem cUCI_2_1 (l : Launch) (Z : State) (a0 : Array Value) (hw : ∀ d ∈ tables_1, d.before a0 Z = true) (ws : List Jvm.Cond) (t : Addr) (kb : ClassId) (vs : List Value) (fm : Value) (h0 : Heap) (n0 : Nat) (Z0 : n0 ≤ h0.size) (OLD : Old Z n0 h0) (SFm : Sta Z Z.heap "jdk/internal/util/Preconditions" "SIOOBE_FORMATTER" "Ljava/util/function/BiFunction;" fm) (rfm : fm.isRef = true) (V_t : Arv Z h0 t kb .byte (4 : Int32) vs (.int (0 : Int32))) :
    Con l (⟨"java/lang/StringUTF16", "checkIndex", "(I[B)V"⟩ : MethodName) jdk_52_method_91_code 2 none ws ({ frames := 2, cells := 0, slots := 0, locals := 27 } : Room) Z #[(.int (1 : Int32)), (.ref t)] h0 (fun v h L => v = none ∧ L = [] ∧ h = h0) 0 0 := by
  refine enter (plainFor_of_name pn_0) ?_
  intro p e s m below meth c s₁ hnm hret hlk D0
  rw [ef_cUCI_2_1 m t]
  refine g_iloadN D0 1 d_jdk_52m91_0 rfl rfl ?_
  refine g_aloadN D0 2 d_jdk_52m91_1 rfl rfl rfl ?_
  refine g_callSp D0 5 (hw _ w_110) (hw _ w_111) (hw _ w_50) (hw _ w_112) (by decide) ((cUL_2 l Z a0 hw [] t kb vs h0 n0 Z0 V_t).back D0 1 (hw _ w_112) (hw _ w_50) (by decide) (by decide)) rfl [(.ref t)] rfl (lenOf pd_10 rfl) rfl (Nat.le_of_eq rfl) (by decide) (by decide) d_jdk_52m91_2 rfl ?_
  intro v255 T255 q255 D255
  subst q255
  show Go p e below _ (T255.setTop (mkF m 5 #[.val (.int (1 : Int32)), .val (.ref t)] [(.int (2 : Int32)), (.int (1 : Int32))]))
  refine g_callSp D255 8 (hw _ w_113) (hw _ w_77) (hw _ w_3) (hw _ w_78) (by decide) ((cSCI_2_1 l Z a0 hw [] fm h0 n0 Z0 OLD SFm rfm).back D255 0 (hw _ w_78) (hw _ w_3) (by decide) (by decide)) rfl [(.int (1 : Int32)), (.int (2 : Int32))] rfl (lenOf pd_9 rfl) rfl (Nat.le_of_eq rfl) (by decide) (by decide) d_jdk_52m91_5 rfl ?_
  intro v256 T256 q256 D256
  subst q256
  show Go p e below _ (T256.setTop (mkF m 8 #[.val (.int (1 : Int32)), .val (.ref t)] []))
  exact r_V D256 hret hlk d_jdk_52m91_8 ⟨rfl, rfl, rfl⟩ (by decide) (by decide)
set_option maxRecDepth 65536 in
set_option maxHeartbeats 40000000 in
theorem cUCh_2_1 (l : Launch) (Z : State) (a0 : Array Value) (hw : ∀ d ∈ tables_1, d.before a0 Z = true) (ws : List Jvm.Cond) (t : Addr) (kb : ClassId) (fm : Value) (c0 c1 : Int32) (h0 : Heap) (n0 : Nat) (Z0 : n0 ≤ h0.size) (OLD : Old Z n0 h0) (SA : Sta Z Z.heap "java/lang/StringUTF16" "$assertionsDisabled" "Z" (.int (1 : Int32))) (SH : Sta Z Z.heap "java/lang/StringUTF16" "HI_BYTE_SHIFT" "I" (.int (0 : Int32))) (SL : Sta Z Z.heap "java/lang/StringUTF16" "LO_BYTE_SHIFT" "I" (.int (8 : Int32))) (SFm : Sta Z Z.heap "jdk/internal/util/Preconditions" "SIOOBE_FORMATTER" "Ljava/util/function/BiFunction;" fm) (rfm : fm.isRef = true) (V_t : Arv Z h0 t kb .byte (4 : Int32) (StrChars.Road.wideBytes [c0, c1]) (.int (0 : Int32)))  (Hi : C16 c1) :
    Con l (⟨"java/lang/StringUTF16", "charAt", "([BI)C"⟩ : MethodName) jdk_52_method_83_code 2 (some .char) ws ({ frames := 3, cells := 0, slots := 0, locals := 40 } : Room) Z #[(.ref t), (.int (1 : Int32))] h0 (fun v h L => v = some (.int c1) ∧ L = [] ∧ h = h0) 0 0 := by
  refine enter (plainFor_of_name pn_0) ?_
  intro p e s m below meth c s₁ hnm hret hlk D0
  rw [ef_cUCh_2_1 m t]
  refine g_iloadN D0 1 d_jdk_52m83_0 rfl rfl ?_
  refine g_aloadN D0 2 d_jdk_52m83_1 rfl rfl rfl ?_
  refine g_callSp D0 5 (hw _ w_107) (hw _ w_108) (hw _ w_50) (hw _ w_109) (by decide) ((cUCI_2_1 l Z a0 hw [] t kb _ fm h0 n0 Z0 OLD SFm rfm V_t).back D0 0 (hw _ w_109) (hw _ w_50) (by decide) (by decide)) rfl [(.int (1 : Int32)), (.ref t)] rfl (lenOf pd_11 rfl) rfl (Nat.le_of_eq rfl) (by decide) (by decide) d_jdk_52m83_2 rfl ?_
  intro v257 T257 q257 D257
  subst q257
  show Go p e below _ (T257.setTop (mkF m 5 #[.val (.ref t), .val (.int (1 : Int32))] []))
  refine g_aloadN D257 6 d_jdk_52m83_5 rfl rfl rfl ?_
  refine g_iloadN D257 7 d_jdk_52m83_6 rfl rfl ?_
  refine g_callSp D257 10 (hw _ w_101) (hw _ w_102) (hw _ w_50) (hw _ w_103) (by decide) ((cGet_2_1 l Z a0 hw [] t kb c0 c1 h0 n0 Z0 OLD SA SH SL V_t Hi).back D257 0 (hw _ w_103) (hw _ w_50) (by decide) (by decide)) rfl [(.ref t), (.int (1 : Int32))] rfl (lenOf pd_5 rfl) rfl (Nat.le_of_eq rfl) (by decide) (by decide) d_jdk_52m83_7 rfl ?_
  intro v258 T258 q258 D258
  subst q258
  show Go p e below _ (T258.setTop (mkF m 10 #[.val (.ref t), .val (.int (1 : Int32))] [(.int c1)]))
  exact r_N D258 hret (by simp) hlk d_jdk_52m83_10 ⟨congrArg (fun z => some (Value.int z)) (nar16 Hi), rfl, rfl⟩ (by decide) (by decide)
set_option maxRecDepth 65536 in
set_option maxHeartbeats 40000000 in
theorem cSCh_2_1 (l : Launch) (Z : State) (a0 : Array Value) (hw : ∀ d ∈ tables_1, d.before a0 Z = true) (ws : List Jvm.Cond) (x : Addr) (zc : Int32) (fm : Value) (c0 c1 : Int32) (h0 : Heap) (n0 : Nat) (Z0 : n0 ≤ h0.size) (OLD : Old Z n0 h0) (SA : Sta Z Z.heap "java/lang/StringUTF16" "$assertionsDisabled" "Z" (.int (1 : Int32))) (SH : Sta Z Z.heap "java/lang/StringUTF16" "HI_BYTE_SHIFT" "I" (.int (0 : Int32))) (SL : Sta Z Z.heap "java/lang/StringUTF16" "LO_BYTE_SHIFT" "I" (.int (8 : Int32))) (CS : Sta Z Z.heap "java/lang/String" "COMPACT_STRINGS" "Z" (.int zc)) (hzc : ¬ zc = 0) (SFm : Sta Z Z.heap "jdk/internal/util/Preconditions" "SIOOBE_FORMATTER" "Ljava/util/function/BiFunction;" fm) (rfm : fm.isRef = true) (X_x : TS Z h0 x [c0, c1]) :
    Con l (⟨"java/lang/String", "charAt", "(I)C"⟩ : MethodName) jdk_42_method_56_code 2 (some .char) ws ({ frames := 4, cells := 0, slots := 0, locals := 53 } : Room) Z #[(.ref x), (.int (1 : Int32))] h0 (fun v h L => v = some (.int c1) ∧ L = [] ∧ h = h0) 0 0 := by
  refine enter (plainFor_of_name pn_1) ?_
  intro p e s m below meth c s₁ hnm hret hlk D0
  rw [ef_cSCh_2_1 m x]
  obtain ⟨t, kb, cd, N2, vs, f1, f2, f3, f4, f5, f6, -⟩ := X_x
  have Hi := f6 c1 (List.mem_of_getElem? (i := 1) rfl)
  rcases f5 with ⟨rfl, rfl, rfl, fu⟩ | ⟨rfl, rfl, rfl, fe⟩
  · refine g_aloadN D0 1 d_jdk_42m56_0 rfl rfl rfl ?_
    refine g_callVp D0 4 (hw _ w_67) (hw _ w_68) (notFace_of_selects (args := #[]) (mvT D0.wm (hw _ w_70))) (hw _ w_70) (hw _ w_69) (by decide) ((cIL_0 l Z a0 hw [] x zc h0 n0 Z0 OLD CS hzc f2).back D0 0 (hw _ w_71) (hw _ w_3) (by decide) (by decide)) f1 rfl [] rfl (lenOf pd_12 rfl) rfl (Nat.le_of_eq rfl) (by decide) (by decide) d_jdk_42m56_1 rfl ?_
    intro v259 T259 q259 D259
    subst q259
    show Go p e below _ (T259.setTop (mkF m 4 #[.val (.ref x), .val (.int (1 : Int32))] [(.int (1 : Int32))]))
    refine g_ifN D259 7 d_jdk_42m56_4 (by decide) rfl ?_
    refine g_aloadN D259 8 d_jdk_42m56_7 rfl rfl rfl ?_
    refine g_getF D259 11 (hw _ w_21) Via.refl f3 d_jdk_42m56_8 rfl ?_
    intro T260 D260
    refine g_iloadN D260 12 d_jdk_42m56_11 rfl rfl ?_
    refine g_callSp D260 15 (hw _ w_72) (hw _ w_73) (hw _ w_74) (hw _ w_75) (by decide) ((cLCh_2_1 l Z a0 hw [] t kb fm c0 c1 h0 n0 Z0 OLD SFm rfm f4 Hi (fu c1 (List.mem_of_getElem? (i := 1) rfl))).back D260 0 (hw _ w_75) (hw _ w_74) (by decide) (by decide)) rfl [(.ref t), (.int (1 : Int32))] rfl (lenOf pd_5 rfl) rfl (Nat.le_of_eq rfl) (by decide) (by decide) d_jdk_42m56_12 rfl ?_
    intro v261 T261 q261 D261
    subst q261
    show Go p e below _ (T261.setTop (mkF m 15 #[.val (.ref x), .val (.int (1 : Int32))] [(.int c1)]))
    exact r_N D261 hret (by simp) hlk d_jdk_42m56_15 ⟨congrArg (fun z => some (Value.int z)) (nar16 Hi), rfl, rfl⟩ (by decide) (by decide)
  · refine g_aloadN D0 1 d_jdk_42m56_0 rfl rfl rfl ?_
    refine g_callVp D0 4 (hw _ w_67) (hw _ w_68) (notFace_of_selects (args := #[]) (mvT D0.wm (hw _ w_70))) (hw _ w_70) (hw _ w_69) (by decide) ((cIL_1 l Z a0 hw [] x zc h0 n0 Z0 OLD CS hzc f2).back D0 0 (hw _ w_71) (hw _ w_3) (by decide) (by decide)) f1 rfl [] rfl (lenOf pd_12 rfl) rfl (Nat.le_of_eq rfl) (by decide) (by decide) d_jdk_42m56_1 rfl ?_
    intro v262 T262 q262 D262
    subst q262
    show Go p e below _ (T262.setTop (mkF m 4 #[.val (.ref x), .val (.int (1 : Int32))] [(.int (0 : Int32))]))
    refine g_ifY D262 16 d_jdk_42m56_4 (by decide) (by decide) (by decide) ?_
    refine g_aloadN D262 17 d_jdk_42m56_16 rfl rfl rfl ?_
    refine g_getF D262 20 (hw _ w_21) Via.refl f3 d_jdk_42m56_17 rfl ?_
    intro T263 D263
    refine g_iloadN D263 21 d_jdk_42m56_20 rfl rfl ?_
    refine g_callSp D263 24 (hw _ w_104) (hw _ w_105) (hw _ w_50) (hw _ w_106) (by decide) ((cUCh_2_1 l Z a0 hw [] t kb fm c0 c1 h0 n0 Z0 OLD SA SH SL SFm rfm f4 Hi).back D263 0 (hw _ w_106) (hw _ w_50) (by decide) (by decide)) rfl [(.ref t), (.int (1 : Int32))] rfl (lenOf pd_5 rfl) rfl (Nat.le_of_eq rfl) (by decide) (by decide) d_jdk_42m56_21 rfl ?_
    intro v264 T264 q264 D264
    subst q264
    show Go p e below _ (T264.setTop (mkF m 24 #[.val (.ref x), .val (.int (1 : Int32))] [(.int c1)]))
    exact r_N D264 hret (by simp) hlk d_jdk_42m56_24 ⟨congrArg (fun z => some (Value.int z)) (nar16 Hi), rfl, rfl⟩ (by decide) (by decide)
set_option maxRecDepth 65536 in
set_option maxHeartbeats 40000000 in
theorem cUL_3 (l : Launch) (Z : State) (a0 : Array Value) (hw : ∀ d ∈ tables_1, d.before a0 Z = true) (ws : List Jvm.Cond) (t : Addr) (kb : ClassId) (vs : List Value) (h0 : Heap) (n0 : Nat) (Z0 : n0 ≤ h0.size) (V_t : Arv Z h0 t kb .byte (6 : Int32) vs (.int (0 : Int32))) :
    Con l (⟨"java/lang/StringUTF16", "length", "([B)I"⟩ : MethodName) jdk_52_method_6_code 1 (some .int) ws ({ frames := 0, cells := 0, slots := 0, locals := 0 } : Room) Z #[(.ref t)] h0 (fun v h L => v = some (.int (3 : Int32)) ∧ L = [] ∧ h = h0) 0 0 := by
  refine enter (plainFor_of_name pn_0) ?_
  intro p e s m below meth c s₁ hnm hret hlk D0
  rw [ef_cUL_3 m t]
  refine g_aloadN D0 1 d_jdk_52m6_0 rfl rfl rfl ?_
  refine g_alen D0 2 V_t d_jdk_52m6_1 rfl ?_
  refine g_iconst D0 3 (1 : Int32) d_jdk_52m6_2 rfl rfl ?_
  refine g_ishr D0 4 d_jdk_52m6_3 rfl ?_
  rw [show ((6 : Int32) >>> ((1 : Int32) &&& 31)) = (3 : Int32) from by decide]
  exact r_I D0 hret hlk d_jdk_52m6_4 ⟨rfl, rfl, rfl⟩ (by decide) (by decide)
set_option maxRecDepth 65536 in
set_option maxHeartbeats 40000000 in
theorem cPCI_3_0_r (l : Launch) (Z : State) (a0 : Array Value) (hw : ∀ d ∈ tables_1, d.before a0 Z = true) (ws : List Jvm.Cond) (fa : Addr) (h0 : Heap) (n0 : Nat) (Z0 : n0 ≤ h0.size)  :
    Con l (⟨"jdk/internal/util/Preconditions", "checkIndex", "(IILjava/util/function/BiFunction;)I"⟩ : MethodName) jdk_41_method_11_code 3 (some .int) ws ({ frames := 0, cells := 0, slots := 0, locals := 0 } : Room) Z #[(.int (0 : Int32)), (.int (3 : Int32)), (.ref fa)] h0 (fun v h L => v = some (.int (0 : Int32)) ∧ L = [] ∧ h = h0) 0 0 := by
  refine enter (plainFor_of_name pn_2) ?_
  intro p e s m below meth c s₁ hnm hret hlk D0
  rw [ef_cPCI_3_0_r m fa]
  refine g_iloadN D0 1 d_jdk_41m11_0 rfl rfl ?_
  refine g_ifN D0 4 d_jdk_41m11_1 (by decide) rfl ?_
  refine g_iloadN D0 5 d_jdk_41m11_4 rfl rfl ?_
  refine g_iloadN D0 6 d_jdk_41m11_5 rfl rfl ?_
  refine g_icmpY D0 16 d_jdk_41m11_6 (by decide) (by decide) (by decide) ?_
  refine g_iloadN D0 17 d_jdk_41m11_16 rfl rfl ?_
  exact r_I D0 hret hlk d_jdk_41m11_17 ⟨rfl, rfl, rfl⟩ (by decide) (by decide)
set_option maxRecDepth 65536 in
set_option maxHeartbeats 40000000 in
theorem cPCI_3_0_n (l : Launch) (Z : State) (a0 : Array Value) (hw : ∀ d ∈ tables_1, d.before a0 Z = true) (ws : List Jvm.Cond)  (h0 : Heap) (n0 : Nat) (Z0 : n0 ≤ h0.size)  :
    Con l (⟨"jdk/internal/util/Preconditions", "checkIndex", "(IILjava/util/function/BiFunction;)I"⟩ : MethodName) jdk_41_method_11_code 3 (some .int) ws ({ frames := 0, cells := 0, slots := 0, locals := 0 } : Room) Z #[(.int (0 : Int32)), (.int (3 : Int32)), .null] h0 (fun v h L => v = some (.int (0 : Int32)) ∧ L = [] ∧ h = h0) 0 0 := by
  refine enter (plainFor_of_name pn_2) ?_
  intro p e s m below meth c s₁ hnm hret hlk D0
  rw [ef_cPCI_3_0_n m]
  refine g_iloadN D0 1 d_jdk_41m11_0 rfl rfl ?_
  refine g_ifN D0 4 d_jdk_41m11_1 (by decide) rfl ?_
  refine g_iloadN D0 5 d_jdk_41m11_4 rfl rfl ?_
  refine g_iloadN D0 6 d_jdk_41m11_5 rfl rfl ?_
  refine g_icmpY D0 16 d_jdk_41m11_6 (by decide) (by decide) (by decide) ?_
  refine g_iloadN D0 17 d_jdk_41m11_16 rfl rfl ?_
  exact r_I D0 hret hlk d_jdk_41m11_17 ⟨rfl, rfl, rfl⟩ (by decide) (by decide)
set_option maxRecDepth 65536 in
set_option maxHeartbeats 40000000 in
theorem cSCI_3_0 (l : Launch) (Z : State) (a0 : Array Value) (hw : ∀ d ∈ tables_1, d.before a0 Z = true) (ws : List Jvm.Cond) (fm : Value) (h0 : Heap) (n0 : Nat) (Z0 : n0 ≤ h0.size) (OLD : Old Z n0 h0) (SFm : Sta Z Z.heap "jdk/internal/util/Preconditions" "SIOOBE_FORMATTER" "Ljava/util/function/BiFunction;" fm) (rfm : fm.isRef = true) :
    Con l (⟨"java/lang/String", "checkIndex", "(II)V"⟩ : MethodName) jdk_42_method_155_code 2 none ws ({ frames := 1, cells := 0, slots := 0, locals := 14 } : Room) Z #[(.int (0 : Int32)), (.int (3 : Int32))] h0 (fun v h L => v = none ∧ L = [] ∧ h = h0) 0 0 := by
  refine enter (plainFor_of_name pn_1) ?_
  intro p e s m below meth c s₁ hnm hret hlk D0
  rw [ef_cSCI_3_0 m]
  obtain ⟨fa, rfl⟩ | rfl := ref_cases rfm
  · refine g_iloadN D0 1 d_jdk_42m155_0 rfl rfl ?_
    refine g_iloadN D0 2 d_jdk_42m155_1 rfl rfl ?_
    refine g_getS D0 5 (hw _ w_79) Via.refl (SFm.ext OLD.2) d_jdk_42m155_2 rfl ?_
    intro T265 D265
    refine g_callSp D265 8 (hw _ w_81) (hw _ w_82) (hw _ w_80) (hw _ w_83) (by decide) ((cPCI_3_0_r l Z a0 hw [] fa h0 n0 Z0).back D265 0 (hw _ w_83) (hw _ w_80) (by decide) (by decide)) rfl [(.int (0 : Int32)), (.int (3 : Int32)), (.ref fa)] rfl (lenOf pd_8 rfl) rfl (Nat.le_of_eq rfl) (by decide) (by decide) d_jdk_42m155_5 rfl ?_
    intro v266 T266 q266 D266
    subst q266
    show Go p e below _ (T266.setTop (mkF m 8 #[.val (.int (0 : Int32)), .val (.int (3 : Int32))] [(.int (0 : Int32))]))
    refine g_pop D266 9 d_jdk_42m155_8 rfl rfl ?_
    exact r_V D266 hret hlk d_jdk_42m155_9 ⟨rfl, rfl, rfl⟩ (by decide) (by decide)
  · refine g_iloadN D0 1 d_jdk_42m155_0 rfl rfl ?_
    refine g_iloadN D0 2 d_jdk_42m155_1 rfl rfl ?_
    refine g_getS D0 5 (hw _ w_79) Via.refl (SFm.ext OLD.2) d_jdk_42m155_2 rfl ?_
    intro T267 D267
    refine g_callSp D267 8 (hw _ w_81) (hw _ w_82) (hw _ w_80) (hw _ w_83) (by decide) ((cPCI_3_0_n l Z a0 hw [] h0 n0 Z0).back D267 0 (hw _ w_83) (hw _ w_80) (by decide) (by decide)) rfl [(.int (0 : Int32)), (.int (3 : Int32)), .null] rfl (lenOf pd_8 rfl) rfl (Nat.le_of_eq rfl) (by decide) (by decide) d_jdk_42m155_5 rfl ?_
    intro v268 T268 q268 D268
    subst q268
    show Go p e below _ (T268.setTop (mkF m 8 #[.val (.int (0 : Int32)), .val (.int (3 : Int32))] [(.int (0 : Int32))]))
    refine g_pop D268 9 d_jdk_42m155_8 rfl rfl ?_
    exact r_V D268 hret hlk d_jdk_42m155_9 ⟨rfl, rfl, rfl⟩ (by decide) (by decide)
set_option maxRecDepth 65536 in
set_option maxHeartbeats 40000000 in
theorem cLCh_3_0 (l : Launch) (Z : State) (a0 : Array Value) (hw : ∀ d ∈ tables_1, d.before a0 Z = true) (ws : List Jvm.Cond) (t : Addr) (kb : ClassId) (fm : Value) (c0 c1 c2 : Int32) (h0 : Heap) (n0 : Nat) (Z0 : n0 ≤ h0.size) (OLD : Old Z n0 h0) (SFm : Sta Z Z.heap "jdk/internal/util/Preconditions" "SIOOBE_FORMATTER" "Ljava/util/function/BiFunction;" fm) (rfm : fm.isRef = true) (V_t : Arv Z h0 t kb .byte (3 : Int32) [(.int (StrChars.lo8 c0)), (.int (StrChars.lo8 c1)), (.int (StrChars.lo8 c2))] (.int (0 : Int32)))  (Hi : C16 c0) (Ui : ¬ (255 : Int32) < c0) :
    Con l (⟨"java/lang/StringLatin1", "charAt", "([BI)C"⟩ : MethodName) jdk_43_method_2_code 2 (some .char) ws ({ frames := 2, cells := 0, slots := 0, locals := 27 } : Room) Z #[(.ref t), (.int (0 : Int32))] h0 (fun v h L => v = some (.int c0) ∧ L = [] ∧ h = h0) 0 0 := by
  refine enter (plainFor_of_name pn_3) ?_
  intro p e s m below meth c s₁ hnm hret hlk D0
  rw [ef_cLCh_3_0 m t]
  refine g_iloadN D0 1 d_jdk_43m2_0 rfl rfl ?_
  refine g_aloadN D0 2 d_jdk_43m2_1 rfl rfl rfl ?_
  refine g_alen D0 3 V_t d_jdk_43m2_2 rfl ?_
  refine g_callSp D0 6 (hw _ w_76) (hw _ w_77) (hw _ w_3) (hw _ w_78) (by decide) ((cSCI_3_0 l Z a0 hw [] fm h0 n0 Z0 OLD SFm rfm).back D0 0 (hw _ w_78) (hw _ w_3) (by decide) (by decide)) rfl [(.int (0 : Int32)), (.int (3 : Int32))] rfl (lenOf pd_9 rfl) rfl (Nat.le_of_eq rfl) (by decide) (by decide) d_jdk_43m2_3 rfl ?_
  intro v269 T269 q269 D269
  subst q269
  show Go p e below _ (T269.setTop (mkF m 6 #[.val (.ref t), .val (.int (0 : Int32))] []))
  refine g_aloadN D269 7 d_jdk_43m2_6 rfl rfl rfl ?_
  refine g_iloadN D269 8 d_jdk_43m2_7 rfl rfl ?_
  refine g_baload D269 9 V_t (v := (.int (StrChars.lo8 c0))) ⟨by decide, by decide⟩ rfl d_jdk_43m2_8 rfl ?_
  refine g_sipush D269 12 (255 : Int32) d_jdk_43m2_9 rfl rfl ?_
  refine g_iand D269 13 d_jdk_43m2_12 rfl ?_
  refine g_i2c D269 14 d_jdk_43m2_13 rfl ?_
  exact r_N D269 hret (by simp) hlk d_jdk_43m2_14 ⟨congrArg (fun z => some (Value.int z)) (lch_says Hi Ui), rfl, rfl⟩ (by decide) (by decide)
set_option maxRecDepth 65536 in
set_option maxHeartbeats 40000000 in
theorem cUCI_3_0 (l : Launch) (Z : State) (a0 : Array Value) (hw : ∀ d ∈ tables_1, d.before a0 Z = true) (ws : List Jvm.Cond) (t : Addr) (kb : ClassId) (vs : List Value) (fm : Value) (h0 : Heap) (n0 : Nat) (Z0 : n0 ≤ h0.size) (OLD : Old Z n0 h0) (SFm : Sta Z Z.heap "jdk/internal/util/Preconditions" "SIOOBE_FORMATTER" "Ljava/util/function/BiFunction;" fm) (rfm : fm.isRef = true) (V_t : Arv Z h0 t kb .byte (6 : Int32) vs (.int (0 : Int32))) :
    Con l (⟨"java/lang/StringUTF16", "checkIndex", "(I[B)V"⟩ : MethodName) jdk_52_method_91_code 2 none ws ({ frames := 2, cells := 0, slots := 0, locals := 27 } : Room) Z #[(.int (0 : Int32)), (.ref t)] h0 (fun v h L => v = none ∧ L = [] ∧ h = h0) 0 0 := by
  refine enter (plainFor_of_name pn_0) ?_
  intro p e s m below meth c s₁ hnm hret hlk D0
  rw [ef_cUCI_3_0 m t]
  refine g_iloadN D0 1 d_jdk_52m91_0 rfl rfl ?_
  refine g_aloadN D0 2 d_jdk_52m91_1 rfl rfl rfl ?_
  refine g_callSp D0 5 (hw _ w_110) (hw _ w_111) (hw _ w_50) (hw _ w_112) (by decide) ((cUL_3 l Z a0 hw [] t kb vs h0 n0 Z0 V_t).back D0 1 (hw _ w_112) (hw _ w_50) (by decide) (by decide)) rfl [(.ref t)] rfl (lenOf pd_10 rfl) rfl (Nat.le_of_eq rfl) (by decide) (by decide) d_jdk_52m91_2 rfl ?_
  intro v270 T270 q270 D270
  subst q270
  show Go p e below _ (T270.setTop (mkF m 5 #[.val (.int (0 : Int32)), .val (.ref t)] [(.int (3 : Int32)), (.int (0 : Int32))]))
  refine g_callSp D270 8 (hw _ w_113) (hw _ w_77) (hw _ w_3) (hw _ w_78) (by decide) ((cSCI_3_0 l Z a0 hw [] fm h0 n0 Z0 OLD SFm rfm).back D270 0 (hw _ w_78) (hw _ w_3) (by decide) (by decide)) rfl [(.int (0 : Int32)), (.int (3 : Int32))] rfl (lenOf pd_9 rfl) rfl (Nat.le_of_eq rfl) (by decide) (by decide) d_jdk_52m91_5 rfl ?_
  intro v271 T271 q271 D271
  subst q271
  show Go p e below _ (T271.setTop (mkF m 8 #[.val (.int (0 : Int32)), .val (.ref t)] []))
  exact r_V D271 hret hlk d_jdk_52m91_8 ⟨rfl, rfl, rfl⟩ (by decide) (by decide)
set_option maxRecDepth 65536 in
set_option maxHeartbeats 40000000 in
theorem cUCh_3_0 (l : Launch) (Z : State) (a0 : Array Value) (hw : ∀ d ∈ tables_1, d.before a0 Z = true) (ws : List Jvm.Cond) (t : Addr) (kb : ClassId) (fm : Value) (c0 c1 c2 : Int32) (h0 : Heap) (n0 : Nat) (Z0 : n0 ≤ h0.size) (OLD : Old Z n0 h0) (SA : Sta Z Z.heap "java/lang/StringUTF16" "$assertionsDisabled" "Z" (.int (1 : Int32))) (SH : Sta Z Z.heap "java/lang/StringUTF16" "HI_BYTE_SHIFT" "I" (.int (0 : Int32))) (SL : Sta Z Z.heap "java/lang/StringUTF16" "LO_BYTE_SHIFT" "I" (.int (8 : Int32))) (SFm : Sta Z Z.heap "jdk/internal/util/Preconditions" "SIOOBE_FORMATTER" "Ljava/util/function/BiFunction;" fm) (rfm : fm.isRef = true) (V_t : Arv Z h0 t kb .byte (6 : Int32) (StrChars.Road.wideBytes [c0, c1, c2]) (.int (0 : Int32)))  (Hi : C16 c0) :
    Con l (⟨"java/lang/StringUTF16", "charAt", "([BI)C"⟩ : MethodName) jdk_52_method_83_code 2 (some .char) ws ({ frames := 3, cells := 0, slots := 0, locals := 40 } : Room) Z #[(.ref t), (.int (0 : Int32))] h0 (fun v h L => v = some (.int c0) ∧ L = [] ∧ h = h0) 0 0 := by
  refine enter (plainFor_of_name pn_0) ?_
  intro p e s m below meth c s₁ hnm hret hlk D0
  rw [ef_cUCh_3_0 m t]
  refine g_iloadN D0 1 d_jdk_52m83_0 rfl rfl ?_
  refine g_aloadN D0 2 d_jdk_52m83_1 rfl rfl rfl ?_
  refine g_callSp D0 5 (hw _ w_107) (hw _ w_108) (hw _ w_50) (hw _ w_109) (by decide) ((cUCI_3_0 l Z a0 hw [] t kb _ fm h0 n0 Z0 OLD SFm rfm V_t).back D0 0 (hw _ w_109) (hw _ w_50) (by decide) (by decide)) rfl [(.int (0 : Int32)), (.ref t)] rfl (lenOf pd_11 rfl) rfl (Nat.le_of_eq rfl) (by decide) (by decide) d_jdk_52m83_2 rfl ?_
  intro v272 T272 q272 D272
  subst q272
  show Go p e below _ (T272.setTop (mkF m 5 #[.val (.ref t), .val (.int (0 : Int32))] []))
  refine g_aloadN D272 6 d_jdk_52m83_5 rfl rfl rfl ?_
  refine g_iloadN D272 7 d_jdk_52m83_6 rfl rfl ?_
  refine g_callSp D272 10 (hw _ w_101) (hw _ w_102) (hw _ w_50) (hw _ w_103) (by decide) ((cGet_3_0 l Z a0 hw [] t kb c0 c1 c2 h0 n0 Z0 OLD SA SH SL V_t Hi).back D272 0 (hw _ w_103) (hw _ w_50) (by decide) (by decide)) rfl [(.ref t), (.int (0 : Int32))] rfl (lenOf pd_5 rfl) rfl (Nat.le_of_eq rfl) (by decide) (by decide) d_jdk_52m83_7 rfl ?_
  intro v273 T273 q273 D273
  subst q273
  show Go p e below _ (T273.setTop (mkF m 10 #[.val (.ref t), .val (.int (0 : Int32))] [(.int c0)]))
  exact r_N D273 hret (by simp) hlk d_jdk_52m83_10 ⟨congrArg (fun z => some (Value.int z)) (nar16 Hi), rfl, rfl⟩ (by decide) (by decide)
set_option maxRecDepth 65536 in
set_option maxHeartbeats 40000000 in
theorem cSCh_3_0 (l : Launch) (Z : State) (a0 : Array Value) (hw : ∀ d ∈ tables_1, d.before a0 Z = true) (ws : List Jvm.Cond) (x : Addr) (zc : Int32) (fm : Value) (c0 c1 c2 : Int32) (h0 : Heap) (n0 : Nat) (Z0 : n0 ≤ h0.size) (OLD : Old Z n0 h0) (SA : Sta Z Z.heap "java/lang/StringUTF16" "$assertionsDisabled" "Z" (.int (1 : Int32))) (SH : Sta Z Z.heap "java/lang/StringUTF16" "HI_BYTE_SHIFT" "I" (.int (0 : Int32))) (SL : Sta Z Z.heap "java/lang/StringUTF16" "LO_BYTE_SHIFT" "I" (.int (8 : Int32))) (CS : Sta Z Z.heap "java/lang/String" "COMPACT_STRINGS" "Z" (.int zc)) (hzc : ¬ zc = 0) (SFm : Sta Z Z.heap "jdk/internal/util/Preconditions" "SIOOBE_FORMATTER" "Ljava/util/function/BiFunction;" fm) (rfm : fm.isRef = true) (X_x : TS Z h0 x [c0, c1, c2]) :
    Con l (⟨"java/lang/String", "charAt", "(I)C"⟩ : MethodName) jdk_42_method_56_code 2 (some .char) ws ({ frames := 4, cells := 0, slots := 0, locals := 53 } : Room) Z #[(.ref x), (.int (0 : Int32))] h0 (fun v h L => v = some (.int c0) ∧ L = [] ∧ h = h0) 0 0 := by
  refine enter (plainFor_of_name pn_1) ?_
  intro p e s m below meth c s₁ hnm hret hlk D0
  rw [ef_cSCh_3_0 m x]
  obtain ⟨t, kb, cd, N2, vs, f1, f2, f3, f4, f5, f6, -⟩ := X_x
  have Hi := f6 c0 (List.mem_of_getElem? (i := 0) rfl)
  rcases f5 with ⟨rfl, rfl, rfl, fu⟩ | ⟨rfl, rfl, rfl, fe⟩
  · refine g_aloadN D0 1 d_jdk_42m56_0 rfl rfl rfl ?_
    refine g_callVp D0 4 (hw _ w_67) (hw _ w_68) (notFace_of_selects (args := #[]) (mvT D0.wm (hw _ w_70))) (hw _ w_70) (hw _ w_69) (by decide) ((cIL_0 l Z a0 hw [] x zc h0 n0 Z0 OLD CS hzc f2).back D0 0 (hw _ w_71) (hw _ w_3) (by decide) (by decide)) f1 rfl [] rfl (lenOf pd_12 rfl) rfl (Nat.le_of_eq rfl) (by decide) (by decide) d_jdk_42m56_1 rfl ?_
    intro v274 T274 q274 D274
    subst q274
    show Go p e below _ (T274.setTop (mkF m 4 #[.val (.ref x), .val (.int (0 : Int32))] [(.int (1 : Int32))]))
    refine g_ifN D274 7 d_jdk_42m56_4 (by decide) rfl ?_
    refine g_aloadN D274 8 d_jdk_42m56_7 rfl rfl rfl ?_
    refine g_getF D274 11 (hw _ w_21) Via.refl f3 d_jdk_42m56_8 rfl ?_
    intro T275 D275
    refine g_iloadN D275 12 d_jdk_42m56_11 rfl rfl ?_
    refine g_callSp D275 15 (hw _ w_72) (hw _ w_73) (hw _ w_74) (hw _ w_75) (by decide) ((cLCh_3_0 l Z a0 hw [] t kb fm c0 c1 c2 h0 n0 Z0 OLD SFm rfm f4 Hi (fu c0 (List.mem_of_getElem? (i := 0) rfl))).back D275 0 (hw _ w_75) (hw _ w_74) (by decide) (by decide)) rfl [(.ref t), (.int (0 : Int32))] rfl (lenOf pd_5 rfl) rfl (Nat.le_of_eq rfl) (by decide) (by decide) d_jdk_42m56_12 rfl ?_
    intro v276 T276 q276 D276
    subst q276
    show Go p e below _ (T276.setTop (mkF m 15 #[.val (.ref x), .val (.int (0 : Int32))] [(.int c0)]))
    exact r_N D276 hret (by simp) hlk d_jdk_42m56_15 ⟨congrArg (fun z => some (Value.int z)) (nar16 Hi), rfl, rfl⟩ (by decide) (by decide)
  · refine g_aloadN D0 1 d_jdk_42m56_0 rfl rfl rfl ?_
    refine g_callVp D0 4 (hw _ w_67) (hw _ w_68) (notFace_of_selects (args := #[]) (mvT D0.wm (hw _ w_70))) (hw _ w_70) (hw _ w_69) (by decide) ((cIL_1 l Z a0 hw [] x zc h0 n0 Z0 OLD CS hzc f2).back D0 0 (hw _ w_71) (hw _ w_3) (by decide) (by decide)) f1 rfl [] rfl (lenOf pd_12 rfl) rfl (Nat.le_of_eq rfl) (by decide) (by decide) d_jdk_42m56_1 rfl ?_
    intro v277 T277 q277 D277
    subst q277
    show Go p e below _ (T277.setTop (mkF m 4 #[.val (.ref x), .val (.int (0 : Int32))] [(.int (0 : Int32))]))
    refine g_ifY D277 16 d_jdk_42m56_4 (by decide) (by decide) (by decide) ?_
    refine g_aloadN D277 17 d_jdk_42m56_16 rfl rfl rfl ?_
    refine g_getF D277 20 (hw _ w_21) Via.refl f3 d_jdk_42m56_17 rfl ?_
    intro T278 D278
    refine g_iloadN D278 21 d_jdk_42m56_20 rfl rfl ?_
    refine g_callSp D278 24 (hw _ w_104) (hw _ w_105) (hw _ w_50) (hw _ w_106) (by decide) ((cUCh_3_0 l Z a0 hw [] t kb fm c0 c1 c2 h0 n0 Z0 OLD SA SH SL SFm rfm f4 Hi).back D278 0 (hw _ w_106) (hw _ w_50) (by decide) (by decide)) rfl [(.ref t), (.int (0 : Int32))] rfl (lenOf pd_5 rfl) rfl (Nat.le_of_eq rfl) (by decide) (by decide) d_jdk_42m56_21 rfl ?_
    intro v279 T279 q279 D279
    subst q279
    show Go p e below _ (T279.setTop (mkF m 24 #[.val (.ref x), .val (.int (0 : Int32))] [(.int c0)]))
    exact r_N D279 hret (by simp) hlk d_jdk_42m56_24 ⟨congrArg (fun z => some (Value.int z)) (nar16 Hi), rfl, rfl⟩ (by decide) (by decide)
set_option maxRecDepth 65536 in
set_option maxHeartbeats 40000000 in
theorem cPCI_3_1_r (l : Launch) (Z : State) (a0 : Array Value) (hw : ∀ d ∈ tables_1, d.before a0 Z = true) (ws : List Jvm.Cond) (fa : Addr) (h0 : Heap) (n0 : Nat) (Z0 : n0 ≤ h0.size)  :
    Con l (⟨"jdk/internal/util/Preconditions", "checkIndex", "(IILjava/util/function/BiFunction;)I"⟩ : MethodName) jdk_41_method_11_code 3 (some .int) ws ({ frames := 0, cells := 0, slots := 0, locals := 0 } : Room) Z #[(.int (1 : Int32)), (.int (3 : Int32)), (.ref fa)] h0 (fun v h L => v = some (.int (1 : Int32)) ∧ L = [] ∧ h = h0) 0 0 := by
  refine enter (plainFor_of_name pn_2) ?_
  intro p e s m below meth c s₁ hnm hret hlk D0
  rw [ef_cPCI_3_1_r m fa]
  refine g_iloadN D0 1 d_jdk_41m11_0 rfl rfl ?_
  refine g_ifN D0 4 d_jdk_41m11_1 (by decide) rfl ?_
  refine g_iloadN D0 5 d_jdk_41m11_4 rfl rfl ?_
  refine g_iloadN D0 6 d_jdk_41m11_5 rfl rfl ?_
  refine g_icmpY D0 16 d_jdk_41m11_6 (by decide) (by decide) (by decide) ?_
  refine g_iloadN D0 17 d_jdk_41m11_16 rfl rfl ?_
  exact r_I D0 hret hlk d_jdk_41m11_17 ⟨rfl, rfl, rfl⟩ (by decide) (by decide)
set_option maxRecDepth 65536 in
set_option maxHeartbeats 40000000 in
theorem cPCI_3_1_n (l : Launch) (Z : State) (a0 : Array Value) (hw : ∀ d ∈ tables_1, d.before a0 Z = true) (ws : List Jvm.Cond)  (h0 : Heap) (n0 : Nat) (Z0 : n0 ≤ h0.size)  :
    Con l (⟨"jdk/internal/util/Preconditions", "checkIndex", "(IILjava/util/function/BiFunction;)I"⟩ : MethodName) jdk_41_method_11_code 3 (some .int) ws ({ frames := 0, cells := 0, slots := 0, locals := 0 } : Room) Z #[(.int (1 : Int32)), (.int (3 : Int32)), .null] h0 (fun v h L => v = some (.int (1 : Int32)) ∧ L = [] ∧ h = h0) 0 0 := by
  refine enter (plainFor_of_name pn_2) ?_
  intro p e s m below meth c s₁ hnm hret hlk D0
  rw [ef_cPCI_3_1_n m]
  refine g_iloadN D0 1 d_jdk_41m11_0 rfl rfl ?_
  refine g_ifN D0 4 d_jdk_41m11_1 (by decide) rfl ?_
  refine g_iloadN D0 5 d_jdk_41m11_4 rfl rfl ?_
  refine g_iloadN D0 6 d_jdk_41m11_5 rfl rfl ?_
  refine g_icmpY D0 16 d_jdk_41m11_6 (by decide) (by decide) (by decide) ?_
  refine g_iloadN D0 17 d_jdk_41m11_16 rfl rfl ?_
  exact r_I D0 hret hlk d_jdk_41m11_17 ⟨rfl, rfl, rfl⟩ (by decide) (by decide)
set_option maxRecDepth 65536 in
set_option maxHeartbeats 40000000 in
theorem cSCI_3_1 (l : Launch) (Z : State) (a0 : Array Value) (hw : ∀ d ∈ tables_1, d.before a0 Z = true) (ws : List Jvm.Cond) (fm : Value) (h0 : Heap) (n0 : Nat) (Z0 : n0 ≤ h0.size) (OLD : Old Z n0 h0) (SFm : Sta Z Z.heap "jdk/internal/util/Preconditions" "SIOOBE_FORMATTER" "Ljava/util/function/BiFunction;" fm) (rfm : fm.isRef = true) :
    Con l (⟨"java/lang/String", "checkIndex", "(II)V"⟩ : MethodName) jdk_42_method_155_code 2 none ws ({ frames := 1, cells := 0, slots := 0, locals := 14 } : Room) Z #[(.int (1 : Int32)), (.int (3 : Int32))] h0 (fun v h L => v = none ∧ L = [] ∧ h = h0) 0 0 := by
  refine enter (plainFor_of_name pn_1) ?_
  intro p e s m below meth c s₁ hnm hret hlk D0
  rw [ef_cSCI_3_1 m]
  obtain ⟨fa, rfl⟩ | rfl := ref_cases rfm
  · refine g_iloadN D0 1 d_jdk_42m155_0 rfl rfl ?_
    refine g_iloadN D0 2 d_jdk_42m155_1 rfl rfl ?_
    refine g_getS D0 5 (hw _ w_79) Via.refl (SFm.ext OLD.2) d_jdk_42m155_2 rfl ?_
    intro T280 D280
    refine g_callSp D280 8 (hw _ w_81) (hw _ w_82) (hw _ w_80) (hw _ w_83) (by decide) ((cPCI_3_1_r l Z a0 hw [] fa h0 n0 Z0).back D280 0 (hw _ w_83) (hw _ w_80) (by decide) (by decide)) rfl [(.int (1 : Int32)), (.int (3 : Int32)), (.ref fa)] rfl (lenOf pd_8 rfl) rfl (Nat.le_of_eq rfl) (by decide) (by decide) d_jdk_42m155_5 rfl ?_
    intro v281 T281 q281 D281
    subst q281
    show Go p e below _ (T281.setTop (mkF m 8 #[.val (.int (1 : Int32)), .val (.int (3 : Int32))] [(.int (1 : Int32))]))
    refine g_pop D281 9 d_jdk_42m155_8 rfl rfl ?_
    exact r_V D281 hret hlk d_jdk_42m155_9 ⟨rfl, rfl, rfl⟩ (by decide) (by decide)
  · refine g_iloadN D0 1 d_jdk_42m155_0 rfl rfl ?_
    refine g_iloadN D0 2 d_jdk_42m155_1 rfl rfl ?_
    refine g_getS D0 5 (hw _ w_79) Via.refl (SFm.ext OLD.2) d_jdk_42m155_2 rfl ?_
    intro T282 D282
    refine g_callSp D282 8 (hw _ w_81) (hw _ w_82) (hw _ w_80) (hw _ w_83) (by decide) ((cPCI_3_1_n l Z a0 hw [] h0 n0 Z0).back D282 0 (hw _ w_83) (hw _ w_80) (by decide) (by decide)) rfl [(.int (1 : Int32)), (.int (3 : Int32)), .null] rfl (lenOf pd_8 rfl) rfl (Nat.le_of_eq rfl) (by decide) (by decide) d_jdk_42m155_5 rfl ?_
    intro v283 T283 q283 D283
    subst q283
    show Go p e below _ (T283.setTop (mkF m 8 #[.val (.int (1 : Int32)), .val (.int (3 : Int32))] [(.int (1 : Int32))]))
    refine g_pop D283 9 d_jdk_42m155_8 rfl rfl ?_
    exact r_V D283 hret hlk d_jdk_42m155_9 ⟨rfl, rfl, rfl⟩ (by decide) (by decide)
set_option maxRecDepth 65536 in
set_option maxHeartbeats 40000000 in
theorem cLCh_3_1 (l : Launch) (Z : State) (a0 : Array Value) (hw : ∀ d ∈ tables_1, d.before a0 Z = true) (ws : List Jvm.Cond) (t : Addr) (kb : ClassId) (fm : Value) (c0 c1 c2 : Int32) (h0 : Heap) (n0 : Nat) (Z0 : n0 ≤ h0.size) (OLD : Old Z n0 h0) (SFm : Sta Z Z.heap "jdk/internal/util/Preconditions" "SIOOBE_FORMATTER" "Ljava/util/function/BiFunction;" fm) (rfm : fm.isRef = true) (V_t : Arv Z h0 t kb .byte (3 : Int32) [(.int (StrChars.lo8 c0)), (.int (StrChars.lo8 c1)), (.int (StrChars.lo8 c2))] (.int (0 : Int32)))  (Hi : C16 c1) (Ui : ¬ (255 : Int32) < c1) :
    Con l (⟨"java/lang/StringLatin1", "charAt", "([BI)C"⟩ : MethodName) jdk_43_method_2_code 2 (some .char) ws ({ frames := 2, cells := 0, slots := 0, locals := 27 } : Room) Z #[(.ref t), (.int (1 : Int32))] h0 (fun v h L => v = some (.int c1) ∧ L = [] ∧ h = h0) 0 0 := by
  refine enter (plainFor_of_name pn_3) ?_
  intro p e s m below meth c s₁ hnm hret hlk D0
  rw [ef_cLCh_3_1 m t]
  refine g_iloadN D0 1 d_jdk_43m2_0 rfl rfl ?_
  refine g_aloadN D0 2 d_jdk_43m2_1 rfl rfl rfl ?_
  refine g_alen D0 3 V_t d_jdk_43m2_2 rfl ?_
  refine g_callSp D0 6 (hw _ w_76) (hw _ w_77) (hw _ w_3) (hw _ w_78) (by decide) ((cSCI_3_1 l Z a0 hw [] fm h0 n0 Z0 OLD SFm rfm).back D0 0 (hw _ w_78) (hw _ w_3) (by decide) (by decide)) rfl [(.int (1 : Int32)), (.int (3 : Int32))] rfl (lenOf pd_9 rfl) rfl (Nat.le_of_eq rfl) (by decide) (by decide) d_jdk_43m2_3 rfl ?_
  intro v284 T284 q284 D284
  subst q284
  show Go p e below _ (T284.setTop (mkF m 6 #[.val (.ref t), .val (.int (1 : Int32))] []))
  refine g_aloadN D284 7 d_jdk_43m2_6 rfl rfl rfl ?_
  refine g_iloadN D284 8 d_jdk_43m2_7 rfl rfl ?_
  refine g_baload D284 9 V_t (v := (.int (StrChars.lo8 c1))) ⟨by decide, by decide⟩ rfl d_jdk_43m2_8 rfl ?_
  refine g_sipush D284 12 (255 : Int32) d_jdk_43m2_9 rfl rfl ?_
  refine g_iand D284 13 d_jdk_43m2_12 rfl ?_
  refine g_i2c D284 14 d_jdk_43m2_13 rfl ?_
  exact r_N D284 hret (by simp) hlk d_jdk_43m2_14 ⟨congrArg (fun z => some (Value.int z)) (lch_says Hi Ui), rfl, rfl⟩ (by decide) (by decide)
set_option maxRecDepth 65536 in
set_option maxHeartbeats 40000000 in
theorem cUCI_3_1 (l : Launch) (Z : State) (a0 : Array Value) (hw : ∀ d ∈ tables_1, d.before a0 Z = true) (ws : List Jvm.Cond) (t : Addr) (kb : ClassId) (vs : List Value) (fm : Value) (h0 : Heap) (n0 : Nat) (Z0 : n0 ≤ h0.size) (OLD : Old Z n0 h0) (SFm : Sta Z Z.heap "jdk/internal/util/Preconditions" "SIOOBE_FORMATTER" "Ljava/util/function/BiFunction;" fm) (rfm : fm.isRef = true) (V_t : Arv Z h0 t kb .byte (6 : Int32) vs (.int (0 : Int32))) :
    Con l (⟨"java/lang/StringUTF16", "checkIndex", "(I[B)V"⟩ : MethodName) jdk_52_method_91_code 2 none ws ({ frames := 2, cells := 0, slots := 0, locals := 27 } : Room) Z #[(.int (1 : Int32)), (.ref t)] h0 (fun v h L => v = none ∧ L = [] ∧ h = h0) 0 0 := by
  refine enter (plainFor_of_name pn_0) ?_
  intro p e s m below meth c s₁ hnm hret hlk D0
  rw [ef_cUCI_3_1 m t]
  refine g_iloadN D0 1 d_jdk_52m91_0 rfl rfl ?_
  refine g_aloadN D0 2 d_jdk_52m91_1 rfl rfl rfl ?_
  refine g_callSp D0 5 (hw _ w_110) (hw _ w_111) (hw _ w_50) (hw _ w_112) (by decide) ((cUL_3 l Z a0 hw [] t kb vs h0 n0 Z0 V_t).back D0 1 (hw _ w_112) (hw _ w_50) (by decide) (by decide)) rfl [(.ref t)] rfl (lenOf pd_10 rfl) rfl (Nat.le_of_eq rfl) (by decide) (by decide) d_jdk_52m91_2 rfl ?_
  intro v285 T285 q285 D285
  subst q285
  show Go p e below _ (T285.setTop (mkF m 5 #[.val (.int (1 : Int32)), .val (.ref t)] [(.int (3 : Int32)), (.int (1 : Int32))]))
  refine g_callSp D285 8 (hw _ w_113) (hw _ w_77) (hw _ w_3) (hw _ w_78) (by decide) ((cSCI_3_1 l Z a0 hw [] fm h0 n0 Z0 OLD SFm rfm).back D285 0 (hw _ w_78) (hw _ w_3) (by decide) (by decide)) rfl [(.int (1 : Int32)), (.int (3 : Int32))] rfl (lenOf pd_9 rfl) rfl (Nat.le_of_eq rfl) (by decide) (by decide) d_jdk_52m91_5 rfl ?_
  intro v286 T286 q286 D286
  subst q286
  show Go p e below _ (T286.setTop (mkF m 8 #[.val (.int (1 : Int32)), .val (.ref t)] []))
  exact r_V D286 hret hlk d_jdk_52m91_8 ⟨rfl, rfl, rfl⟩ (by decide) (by decide)
set_option maxRecDepth 65536 in
set_option maxHeartbeats 40000000 in
theorem cUCh_3_1 (l : Launch) (Z : State) (a0 : Array Value) (hw : ∀ d ∈ tables_1, d.before a0 Z = true) (ws : List Jvm.Cond) (t : Addr) (kb : ClassId) (fm : Value) (c0 c1 c2 : Int32) (h0 : Heap) (n0 : Nat) (Z0 : n0 ≤ h0.size) (OLD : Old Z n0 h0) (SA : Sta Z Z.heap "java/lang/StringUTF16" "$assertionsDisabled" "Z" (.int (1 : Int32))) (SH : Sta Z Z.heap "java/lang/StringUTF16" "HI_BYTE_SHIFT" "I" (.int (0 : Int32))) (SL : Sta Z Z.heap "java/lang/StringUTF16" "LO_BYTE_SHIFT" "I" (.int (8 : Int32))) (SFm : Sta Z Z.heap "jdk/internal/util/Preconditions" "SIOOBE_FORMATTER" "Ljava/util/function/BiFunction;" fm) (rfm : fm.isRef = true) (V_t : Arv Z h0 t kb .byte (6 : Int32) (StrChars.Road.wideBytes [c0, c1, c2]) (.int (0 : Int32)))  (Hi : C16 c1) :
    Con l (⟨"java/lang/StringUTF16", "charAt", "([BI)C"⟩ : MethodName) jdk_52_method_83_code 2 (some .char) ws ({ frames := 3, cells := 0, slots := 0, locals := 40 } : Room) Z #[(.ref t), (.int (1 : Int32))] h0 (fun v h L => v = some (.int c1) ∧ L = [] ∧ h = h0) 0 0 := by
  refine enter (plainFor_of_name pn_0) ?_
  intro p e s m below meth c s₁ hnm hret hlk D0
  rw [ef_cUCh_3_1 m t]
  refine g_iloadN D0 1 d_jdk_52m83_0 rfl rfl ?_
  refine g_aloadN D0 2 d_jdk_52m83_1 rfl rfl rfl ?_
  refine g_callSp D0 5 (hw _ w_107) (hw _ w_108) (hw _ w_50) (hw _ w_109) (by decide) ((cUCI_3_1 l Z a0 hw [] t kb _ fm h0 n0 Z0 OLD SFm rfm V_t).back D0 0 (hw _ w_109) (hw _ w_50) (by decide) (by decide)) rfl [(.int (1 : Int32)), (.ref t)] rfl (lenOf pd_11 rfl) rfl (Nat.le_of_eq rfl) (by decide) (by decide) d_jdk_52m83_2 rfl ?_
  intro v287 T287 q287 D287
  subst q287
  show Go p e below _ (T287.setTop (mkF m 5 #[.val (.ref t), .val (.int (1 : Int32))] []))
  refine g_aloadN D287 6 d_jdk_52m83_5 rfl rfl rfl ?_
  refine g_iloadN D287 7 d_jdk_52m83_6 rfl rfl ?_
  refine g_callSp D287 10 (hw _ w_101) (hw _ w_102) (hw _ w_50) (hw _ w_103) (by decide) ((cGet_3_1 l Z a0 hw [] t kb c0 c1 c2 h0 n0 Z0 OLD SA SH SL V_t Hi).back D287 0 (hw _ w_103) (hw _ w_50) (by decide) (by decide)) rfl [(.ref t), (.int (1 : Int32))] rfl (lenOf pd_5 rfl) rfl (Nat.le_of_eq rfl) (by decide) (by decide) d_jdk_52m83_7 rfl ?_
  intro v288 T288 q288 D288
  subst q288
  show Go p e below _ (T288.setTop (mkF m 10 #[.val (.ref t), .val (.int (1 : Int32))] [(.int c1)]))
  exact r_N D288 hret (by simp) hlk d_jdk_52m83_10 ⟨congrArg (fun z => some (Value.int z)) (nar16 Hi), rfl, rfl⟩ (by decide) (by decide)
set_option maxRecDepth 65536 in
set_option maxHeartbeats 40000000 in
theorem cSCh_3_1 (l : Launch) (Z : State) (a0 : Array Value) (hw : ∀ d ∈ tables_1, d.before a0 Z = true) (ws : List Jvm.Cond) (x : Addr) (zc : Int32) (fm : Value) (c0 c1 c2 : Int32) (h0 : Heap) (n0 : Nat) (Z0 : n0 ≤ h0.size) (OLD : Old Z n0 h0) (SA : Sta Z Z.heap "java/lang/StringUTF16" "$assertionsDisabled" "Z" (.int (1 : Int32))) (SH : Sta Z Z.heap "java/lang/StringUTF16" "HI_BYTE_SHIFT" "I" (.int (0 : Int32))) (SL : Sta Z Z.heap "java/lang/StringUTF16" "LO_BYTE_SHIFT" "I" (.int (8 : Int32))) (CS : Sta Z Z.heap "java/lang/String" "COMPACT_STRINGS" "Z" (.int zc)) (hzc : ¬ zc = 0) (SFm : Sta Z Z.heap "jdk/internal/util/Preconditions" "SIOOBE_FORMATTER" "Ljava/util/function/BiFunction;" fm) (rfm : fm.isRef = true) (X_x : TS Z h0 x [c0, c1, c2]) :
    Con l (⟨"java/lang/String", "charAt", "(I)C"⟩ : MethodName) jdk_42_method_56_code 2 (some .char) ws ({ frames := 4, cells := 0, slots := 0, locals := 53 } : Room) Z #[(.ref x), (.int (1 : Int32))] h0 (fun v h L => v = some (.int c1) ∧ L = [] ∧ h = h0) 0 0 := by
  refine enter (plainFor_of_name pn_1) ?_
  intro p e s m below meth c s₁ hnm hret hlk D0
  rw [ef_cSCh_3_1 m x]
  obtain ⟨t, kb, cd, N2, vs, f1, f2, f3, f4, f5, f6, -⟩ := X_x
  have Hi := f6 c1 (List.mem_of_getElem? (i := 1) rfl)
  rcases f5 with ⟨rfl, rfl, rfl, fu⟩ | ⟨rfl, rfl, rfl, fe⟩
  · refine g_aloadN D0 1 d_jdk_42m56_0 rfl rfl rfl ?_
    refine g_callVp D0 4 (hw _ w_67) (hw _ w_68) (notFace_of_selects (args := #[]) (mvT D0.wm (hw _ w_70))) (hw _ w_70) (hw _ w_69) (by decide) ((cIL_0 l Z a0 hw [] x zc h0 n0 Z0 OLD CS hzc f2).back D0 0 (hw _ w_71) (hw _ w_3) (by decide) (by decide)) f1 rfl [] rfl (lenOf pd_12 rfl) rfl (Nat.le_of_eq rfl) (by decide) (by decide) d_jdk_42m56_1 rfl ?_
    intro v289 T289 q289 D289
    subst q289
    show Go p e below _ (T289.setTop (mkF m 4 #[.val (.ref x), .val (.int (1 : Int32))] [(.int (1 : Int32))]))
    refine g_ifN D289 7 d_jdk_42m56_4 (by decide) rfl ?_
    refine g_aloadN D289 8 d_jdk_42m56_7 rfl rfl rfl ?_
    refine g_getF D289 11 (hw _ w_21) Via.refl f3 d_jdk_42m56_8 rfl ?_
    intro T290 D290
    refine g_iloadN D290 12 d_jdk_42m56_11 rfl rfl ?_
    refine g_callSp D290 15 (hw _ w_72) (hw _ w_73) (hw _ w_74) (hw _ w_75) (by decide) ((cLCh_3_1 l Z a0 hw [] t kb fm c0 c1 c2 h0 n0 Z0 OLD SFm rfm f4 Hi (fu c1 (List.mem_of_getElem? (i := 1) rfl))).back D290 0 (hw _ w_75) (hw _ w_74) (by decide) (by decide)) rfl [(.ref t), (.int (1 : Int32))] rfl (lenOf pd_5 rfl) rfl (Nat.le_of_eq rfl) (by decide) (by decide) d_jdk_42m56_12 rfl ?_
    intro v291 T291 q291 D291
    subst q291
    show Go p e below _ (T291.setTop (mkF m 15 #[.val (.ref x), .val (.int (1 : Int32))] [(.int c1)]))
    exact r_N D291 hret (by simp) hlk d_jdk_42m56_15 ⟨congrArg (fun z => some (Value.int z)) (nar16 Hi), rfl, rfl⟩ (by decide) (by decide)
  · refine g_aloadN D0 1 d_jdk_42m56_0 rfl rfl rfl ?_
    refine g_callVp D0 4 (hw _ w_67) (hw _ w_68) (notFace_of_selects (args := #[]) (mvT D0.wm (hw _ w_70))) (hw _ w_70) (hw _ w_69) (by decide) ((cIL_1 l Z a0 hw [] x zc h0 n0 Z0 OLD CS hzc f2).back D0 0 (hw _ w_71) (hw _ w_3) (by decide) (by decide)) f1 rfl [] rfl (lenOf pd_12 rfl) rfl (Nat.le_of_eq rfl) (by decide) (by decide) d_jdk_42m56_1 rfl ?_
    intro v292 T292 q292 D292
    subst q292
    show Go p e below _ (T292.setTop (mkF m 4 #[.val (.ref x), .val (.int (1 : Int32))] [(.int (0 : Int32))]))
    refine g_ifY D292 16 d_jdk_42m56_4 (by decide) (by decide) (by decide) ?_
    refine g_aloadN D292 17 d_jdk_42m56_16 rfl rfl rfl ?_
    refine g_getF D292 20 (hw _ w_21) Via.refl f3 d_jdk_42m56_17 rfl ?_
    intro T293 D293
    refine g_iloadN D293 21 d_jdk_42m56_20 rfl rfl ?_
    refine g_callSp D293 24 (hw _ w_104) (hw _ w_105) (hw _ w_50) (hw _ w_106) (by decide) ((cUCh_3_1 l Z a0 hw [] t kb fm c0 c1 c2 h0 n0 Z0 OLD SA SH SL SFm rfm f4 Hi).back D293 0 (hw _ w_106) (hw _ w_50) (by decide) (by decide)) rfl [(.ref t), (.int (1 : Int32))] rfl (lenOf pd_5 rfl) rfl (Nat.le_of_eq rfl) (by decide) (by decide) d_jdk_42m56_21 rfl ?_
    intro v294 T294 q294 D294
    subst q294
    show Go p e below _ (T294.setTop (mkF m 24 #[.val (.ref x), .val (.int (1 : Int32))] [(.int c1)]))
    exact r_N D294 hret (by simp) hlk d_jdk_42m56_24 ⟨congrArg (fun z => some (Value.int z)) (nar16 Hi), rfl, rfl⟩ (by decide) (by decide)
set_option maxRecDepth 65536 in
set_option maxHeartbeats 40000000 in
theorem cPCI_3_2_r (l : Launch) (Z : State) (a0 : Array Value) (hw : ∀ d ∈ tables_1, d.before a0 Z = true) (ws : List Jvm.Cond) (fa : Addr) (h0 : Heap) (n0 : Nat) (Z0 : n0 ≤ h0.size)  :
    Con l (⟨"jdk/internal/util/Preconditions", "checkIndex", "(IILjava/util/function/BiFunction;)I"⟩ : MethodName) jdk_41_method_11_code 3 (some .int) ws ({ frames := 0, cells := 0, slots := 0, locals := 0 } : Room) Z #[(.int (2 : Int32)), (.int (3 : Int32)), (.ref fa)] h0 (fun v h L => v = some (.int (2 : Int32)) ∧ L = [] ∧ h = h0) 0 0 := by
  refine enter (plainFor_of_name pn_2) ?_
  intro p e s m below meth c s₁ hnm hret hlk D0
  rw [ef_cPCI_3_2_r m fa]
  refine g_iloadN D0 1 d_jdk_41m11_0 rfl rfl ?_
  refine g_ifN D0 4 d_jdk_41m11_1 (by decide) rfl ?_
  refine g_iloadN D0 5 d_jdk_41m11_4 rfl rfl ?_
  refine g_iloadN D0 6 d_jdk_41m11_5 rfl rfl ?_
  refine g_icmpY D0 16 d_jdk_41m11_6 (by decide) (by decide) (by decide) ?_
  refine g_iloadN D0 17 d_jdk_41m11_16 rfl rfl ?_
  exact r_I D0 hret hlk d_jdk_41m11_17 ⟨rfl, rfl, rfl⟩ (by decide) (by decide)
set_option maxRecDepth 65536 in
set_option maxHeartbeats 40000000 in
theorem cPCI_3_2_n (l : Launch) (Z : State) (a0 : Array Value) (hw : ∀ d ∈ tables_1, d.before a0 Z = true) (ws : List Jvm.Cond)  (h0 : Heap) (n0 : Nat) (Z0 : n0 ≤ h0.size)  :
    Con l (⟨"jdk/internal/util/Preconditions", "checkIndex", "(IILjava/util/function/BiFunction;)I"⟩ : MethodName) jdk_41_method_11_code 3 (some .int) ws ({ frames := 0, cells := 0, slots := 0, locals := 0 } : Room) Z #[(.int (2 : Int32)), (.int (3 : Int32)), .null] h0 (fun v h L => v = some (.int (2 : Int32)) ∧ L = [] ∧ h = h0) 0 0 := by
  refine enter (plainFor_of_name pn_2) ?_
  intro p e s m below meth c s₁ hnm hret hlk D0
  rw [ef_cPCI_3_2_n m]
  refine g_iloadN D0 1 d_jdk_41m11_0 rfl rfl ?_
  refine g_ifN D0 4 d_jdk_41m11_1 (by decide) rfl ?_
  refine g_iloadN D0 5 d_jdk_41m11_4 rfl rfl ?_
  refine g_iloadN D0 6 d_jdk_41m11_5 rfl rfl ?_
  refine g_icmpY D0 16 d_jdk_41m11_6 (by decide) (by decide) (by decide) ?_
  refine g_iloadN D0 17 d_jdk_41m11_16 rfl rfl ?_
  exact r_I D0 hret hlk d_jdk_41m11_17 ⟨rfl, rfl, rfl⟩ (by decide) (by decide)
set_option maxRecDepth 65536 in
set_option maxHeartbeats 40000000 in
theorem cSCI_3_2 (l : Launch) (Z : State) (a0 : Array Value) (hw : ∀ d ∈ tables_1, d.before a0 Z = true) (ws : List Jvm.Cond) (fm : Value) (h0 : Heap) (n0 : Nat) (Z0 : n0 ≤ h0.size) (OLD : Old Z n0 h0) (SFm : Sta Z Z.heap "jdk/internal/util/Preconditions" "SIOOBE_FORMATTER" "Ljava/util/function/BiFunction;" fm) (rfm : fm.isRef = true) :
    Con l (⟨"java/lang/String", "checkIndex", "(II)V"⟩ : MethodName) jdk_42_method_155_code 2 none ws ({ frames := 1, cells := 0, slots := 0, locals := 14 } : Room) Z #[(.int (2 : Int32)), (.int (3 : Int32))] h0 (fun v h L => v = none ∧ L = [] ∧ h = h0) 0 0 := by
  refine enter (plainFor_of_name pn_1) ?_
  intro p e s m below meth c s₁ hnm hret hlk D0
  rw [ef_cSCI_3_2 m]
  obtain ⟨fa, rfl⟩ | rfl := ref_cases rfm
  · refine g_iloadN D0 1 d_jdk_42m155_0 rfl rfl ?_
    refine g_iloadN D0 2 d_jdk_42m155_1 rfl rfl ?_
    refine g_getS D0 5 (hw _ w_79) Via.refl (SFm.ext OLD.2) d_jdk_42m155_2 rfl ?_
    intro T295 D295
    refine g_callSp D295 8 (hw _ w_81) (hw _ w_82) (hw _ w_80) (hw _ w_83) (by decide) ((cPCI_3_2_r l Z a0 hw [] fa h0 n0 Z0).back D295 0 (hw _ w_83) (hw _ w_80) (by decide) (by decide)) rfl [(.int (2 : Int32)), (.int (3 : Int32)), (.ref fa)] rfl (lenOf pd_8 rfl) rfl (Nat.le_of_eq rfl) (by decide) (by decide) d_jdk_42m155_5 rfl ?_
    intro v296 T296 q296 D296
    subst q296
    show Go p e below _ (T296.setTop (mkF m 8 #[.val (.int (2 : Int32)), .val (.int (3 : Int32))] [(.int (2 : Int32))]))
    refine g_pop D296 9 d_jdk_42m155_8 rfl rfl ?_
    exact r_V D296 hret hlk d_jdk_42m155_9 ⟨rfl, rfl, rfl⟩ (by decide) (by decide)
  · refine g_iloadN D0 1 d_jdk_42m155_0 rfl rfl ?_
    refine g_iloadN D0 2 d_jdk_42m155_1 rfl rfl ?_
    refine g_getS D0 5 (hw _ w_79) Via.refl (SFm.ext OLD.2) d_jdk_42m155_2 rfl ?_
    intro T297 D297
    refine g_callSp D297 8 (hw _ w_81) (hw _ w_82) (hw _ w_80) (hw _ w_83) (by decide) ((cPCI_3_2_n l Z a0 hw [] h0 n0 Z0).back D297 0 (hw _ w_83) (hw _ w_80) (by decide) (by decide)) rfl [(.int (2 : Int32)), (.int (3 : Int32)), .null] rfl (lenOf pd_8 rfl) rfl (Nat.le_of_eq rfl) (by decide) (by decide) d_jdk_42m155_5 rfl ?_
    intro v298 T298 q298 D298
    subst q298
    show Go p e below _ (T298.setTop (mkF m 8 #[.val (.int (2 : Int32)), .val (.int (3 : Int32))] [(.int (2 : Int32))]))
    refine g_pop D298 9 d_jdk_42m155_8 rfl rfl ?_
    exact r_V D298 hret hlk d_jdk_42m155_9 ⟨rfl, rfl, rfl⟩ (by decide) (by decide)
set_option maxRecDepth 65536 in
set_option maxHeartbeats 40000000 in
theorem cLCh_3_2 (l : Launch) (Z : State) (a0 : Array Value) (hw : ∀ d ∈ tables_1, d.before a0 Z = true) (ws : List Jvm.Cond) (t : Addr) (kb : ClassId) (fm : Value) (c0 c1 c2 : Int32) (h0 : Heap) (n0 : Nat) (Z0 : n0 ≤ h0.size) (OLD : Old Z n0 h0) (SFm : Sta Z Z.heap "jdk/internal/util/Preconditions" "SIOOBE_FORMATTER" "Ljava/util/function/BiFunction;" fm) (rfm : fm.isRef = true) (V_t : Arv Z h0 t kb .byte (3 : Int32) [(.int (StrChars.lo8 c0)), (.int (StrChars.lo8 c1)), (.int (StrChars.lo8 c2))] (.int (0 : Int32)))  (Hi : C16 c2) (Ui : ¬ (255 : Int32) < c2) :
    Con l (⟨"java/lang/StringLatin1", "charAt", "([BI)C"⟩ : MethodName) jdk_43_method_2_code 2 (some .char) ws ({ frames := 2, cells := 0, slots := 0, locals := 27 } : Room) Z #[(.ref t), (.int (2 : Int32))] h0 (fun v h L => v = some (.int c2) ∧ L = [] ∧ h = h0) 0 0 := by
  refine enter (plainFor_of_name pn_3) ?_
  intro p e s m below meth c s₁ hnm hret hlk D0
  rw [ef_cLCh_3_2 m t]
  refine g_iloadN D0 1 d_jdk_43m2_0 rfl rfl ?_
  refine g_aloadN D0 2 d_jdk_43m2_1 rfl rfl rfl ?_
  refine g_alen D0 3 V_t d_jdk_43m2_2 rfl ?_
  refine g_callSp D0 6 (hw _ w_76) (hw _ w_77) (hw _ w_3) (hw _ w_78) (by decide) ((cSCI_3_2 l Z a0 hw [] fm h0 n0 Z0 OLD SFm rfm).back D0 0 (hw _ w_78) (hw _ w_3) (by decide) (by decide)) rfl [(.int (2 : Int32)), (.int (3 : Int32))] rfl (lenOf pd_9 rfl) rfl (Nat.le_of_eq rfl) (by decide) (by decide) d_jdk_43m2_3 rfl ?_
  intro v299 T299 q299 D299
  subst q299
  show Go p e below _ (T299.setTop (mkF m 6 #[.val (.ref t), .val (.int (2 : Int32))] []))
  refine g_aloadN D299 7 d_jdk_43m2_6 rfl rfl rfl ?_
  refine g_iloadN D299 8 d_jdk_43m2_7 rfl rfl ?_
  refine g_baload D299 9 V_t (v := (.int (StrChars.lo8 c2))) ⟨by decide, by decide⟩ rfl d_jdk_43m2_8 rfl ?_
  refine g_sipush D299 12 (255 : Int32) d_jdk_43m2_9 rfl rfl ?_
  refine g_iand D299 13 d_jdk_43m2_12 rfl ?_
  refine g_i2c D299 14 d_jdk_43m2_13 rfl ?_
  exact r_N D299 hret (by simp) hlk d_jdk_43m2_14 ⟨congrArg (fun z => some (Value.int z)) (lch_says Hi Ui), rfl, rfl⟩ (by decide) (by decide)
set_option maxRecDepth 65536 in
set_option maxHeartbeats 40000000 in
theorem cUCI_3_2 (l : Launch) (Z : State) (a0 : Array Value) (hw : ∀ d ∈ tables_1, d.before a0 Z = true) (ws : List Jvm.Cond) (t : Addr) (kb : ClassId) (vs : List Value) (fm : Value) (h0 : Heap) (n0 : Nat) (Z0 : n0 ≤ h0.size) (OLD : Old Z n0 h0) (SFm : Sta Z Z.heap "jdk/internal/util/Preconditions" "SIOOBE_FORMATTER" "Ljava/util/function/BiFunction;" fm) (rfm : fm.isRef = true) (V_t : Arv Z h0 t kb .byte (6 : Int32) vs (.int (0 : Int32))) :
    Con l (⟨"java/lang/StringUTF16", "checkIndex", "(I[B)V"⟩ : MethodName) jdk_52_method_91_code 2 none ws ({ frames := 2, cells := 0, slots := 0, locals := 27 } : Room) Z #[(.int (2 : Int32)), (.ref t)] h0 (fun v h L => v = none ∧ L = [] ∧ h = h0) 0 0 := by
  refine enter (plainFor_of_name pn_0) ?_
  intro p e s m below meth c s₁ hnm hret hlk D0
  rw [ef_cUCI_3_2 m t]
  refine g_iloadN D0 1 d_jdk_52m91_0 rfl rfl ?_
  refine g_aloadN D0 2 d_jdk_52m91_1 rfl rfl rfl ?_
  refine g_callSp D0 5 (hw _ w_110) (hw _ w_111) (hw _ w_50) (hw _ w_112) (by decide) ((cUL_3 l Z a0 hw [] t kb vs h0 n0 Z0 V_t).back D0 1 (hw _ w_112) (hw _ w_50) (by decide) (by decide)) rfl [(.ref t)] rfl (lenOf pd_10 rfl) rfl (Nat.le_of_eq rfl) (by decide) (by decide) d_jdk_52m91_2 rfl ?_
  intro v300 T300 q300 D300
  subst q300
  show Go p e below _ (T300.setTop (mkF m 5 #[.val (.int (2 : Int32)), .val (.ref t)] [(.int (3 : Int32)), (.int (2 : Int32))]))
  refine g_callSp D300 8 (hw _ w_113) (hw _ w_77) (hw _ w_3) (hw _ w_78) (by decide) ((cSCI_3_2 l Z a0 hw [] fm h0 n0 Z0 OLD SFm rfm).back D300 0 (hw _ w_78) (hw _ w_3) (by decide) (by decide)) rfl [(.int (2 : Int32)), (.int (3 : Int32))] rfl (lenOf pd_9 rfl) rfl (Nat.le_of_eq rfl) (by decide) (by decide) d_jdk_52m91_5 rfl ?_
  intro v301 T301 q301 D301
  subst q301
  show Go p e below _ (T301.setTop (mkF m 8 #[.val (.int (2 : Int32)), .val (.ref t)] []))
  exact r_V D301 hret hlk d_jdk_52m91_8 ⟨rfl, rfl, rfl⟩ (by decide) (by decide)
set_option maxRecDepth 65536 in
set_option maxHeartbeats 40000000 in
theorem cUCh_3_2 (l : Launch) (Z : State) (a0 : Array Value) (hw : ∀ d ∈ tables_1, d.before a0 Z = true) (ws : List Jvm.Cond) (t : Addr) (kb : ClassId) (fm : Value) (c0 c1 c2 : Int32) (h0 : Heap) (n0 : Nat) (Z0 : n0 ≤ h0.size) (OLD : Old Z n0 h0) (SA : Sta Z Z.heap "java/lang/StringUTF16" "$assertionsDisabled" "Z" (.int (1 : Int32))) (SH : Sta Z Z.heap "java/lang/StringUTF16" "HI_BYTE_SHIFT" "I" (.int (0 : Int32))) (SL : Sta Z Z.heap "java/lang/StringUTF16" "LO_BYTE_SHIFT" "I" (.int (8 : Int32))) (SFm : Sta Z Z.heap "jdk/internal/util/Preconditions" "SIOOBE_FORMATTER" "Ljava/util/function/BiFunction;" fm) (rfm : fm.isRef = true) (V_t : Arv Z h0 t kb .byte (6 : Int32) (StrChars.Road.wideBytes [c0, c1, c2]) (.int (0 : Int32)))  (Hi : C16 c2) :
    Con l (⟨"java/lang/StringUTF16", "charAt", "([BI)C"⟩ : MethodName) jdk_52_method_83_code 2 (some .char) ws ({ frames := 3, cells := 0, slots := 0, locals := 40 } : Room) Z #[(.ref t), (.int (2 : Int32))] h0 (fun v h L => v = some (.int c2) ∧ L = [] ∧ h = h0) 0 0 := by
  refine enter (plainFor_of_name pn_0) ?_
  intro p e s m below meth c s₁ hnm hret hlk D0
  rw [ef_cUCh_3_2 m t]
  refine g_iloadN D0 1 d_jdk_52m83_0 rfl rfl ?_
  refine g_aloadN D0 2 d_jdk_52m83_1 rfl rfl rfl ?_
  refine g_callSp D0 5 (hw _ w_107) (hw _ w_108) (hw _ w_50) (hw _ w_109) (by decide) ((cUCI_3_2 l Z a0 hw [] t kb _ fm h0 n0 Z0 OLD SFm rfm V_t).back D0 0 (hw _ w_109) (hw _ w_50) (by decide) (by decide)) rfl [(.int (2 : Int32)), (.ref t)] rfl (lenOf pd_11 rfl) rfl (Nat.le_of_eq rfl) (by decide) (by decide) d_jdk_52m83_2 rfl ?_
  intro v302 T302 q302 D302
  subst q302
  show Go p e below _ (T302.setTop (mkF m 5 #[.val (.ref t), .val (.int (2 : Int32))] []))
  refine g_aloadN D302 6 d_jdk_52m83_5 rfl rfl rfl ?_
  refine g_iloadN D302 7 d_jdk_52m83_6 rfl rfl ?_
  refine g_callSp D302 10 (hw _ w_101) (hw _ w_102) (hw _ w_50) (hw _ w_103) (by decide) ((cGet_3_2 l Z a0 hw [] t kb c0 c1 c2 h0 n0 Z0 OLD SA SH SL V_t Hi).back D302 0 (hw _ w_103) (hw _ w_50) (by decide) (by decide)) rfl [(.ref t), (.int (2 : Int32))] rfl (lenOf pd_5 rfl) rfl (Nat.le_of_eq rfl) (by decide) (by decide) d_jdk_52m83_7 rfl ?_
  intro v303 T303 q303 D303
  subst q303
  show Go p e below _ (T303.setTop (mkF m 10 #[.val (.ref t), .val (.int (2 : Int32))] [(.int c2)]))
  exact r_N D303 hret (by simp) hlk d_jdk_52m83_10 ⟨congrArg (fun z => some (Value.int z)) (nar16 Hi), rfl, rfl⟩ (by decide) (by decide)
set_option maxRecDepth 65536 in
set_option maxHeartbeats 40000000 in
theorem cSCh_3_2 (l : Launch) (Z : State) (a0 : Array Value) (hw : ∀ d ∈ tables_1, d.before a0 Z = true) (ws : List Jvm.Cond) (x : Addr) (zc : Int32) (fm : Value) (c0 c1 c2 : Int32) (h0 : Heap) (n0 : Nat) (Z0 : n0 ≤ h0.size) (OLD : Old Z n0 h0) (SA : Sta Z Z.heap "java/lang/StringUTF16" "$assertionsDisabled" "Z" (.int (1 : Int32))) (SH : Sta Z Z.heap "java/lang/StringUTF16" "HI_BYTE_SHIFT" "I" (.int (0 : Int32))) (SL : Sta Z Z.heap "java/lang/StringUTF16" "LO_BYTE_SHIFT" "I" (.int (8 : Int32))) (CS : Sta Z Z.heap "java/lang/String" "COMPACT_STRINGS" "Z" (.int zc)) (hzc : ¬ zc = 0) (SFm : Sta Z Z.heap "jdk/internal/util/Preconditions" "SIOOBE_FORMATTER" "Ljava/util/function/BiFunction;" fm) (rfm : fm.isRef = true) (X_x : TS Z h0 x [c0, c1, c2]) :
    Con l (⟨"java/lang/String", "charAt", "(I)C"⟩ : MethodName) jdk_42_method_56_code 2 (some .char) ws ({ frames := 4, cells := 0, slots := 0, locals := 53 } : Room) Z #[(.ref x), (.int (2 : Int32))] h0 (fun v h L => v = some (.int c2) ∧ L = [] ∧ h = h0) 0 0 := by
  refine enter (plainFor_of_name pn_1) ?_
  intro p e s m below meth c s₁ hnm hret hlk D0
  rw [ef_cSCh_3_2 m x]
  obtain ⟨t, kb, cd, N2, vs, f1, f2, f3, f4, f5, f6, -⟩ := X_x
  have Hi := f6 c2 (List.mem_of_getElem? (i := 2) rfl)
  rcases f5 with ⟨rfl, rfl, rfl, fu⟩ | ⟨rfl, rfl, rfl, fe⟩
  · refine g_aloadN D0 1 d_jdk_42m56_0 rfl rfl rfl ?_
    refine g_callVp D0 4 (hw _ w_67) (hw _ w_68) (notFace_of_selects (args := #[]) (mvT D0.wm (hw _ w_70))) (hw _ w_70) (hw _ w_69) (by decide) ((cIL_0 l Z a0 hw [] x zc h0 n0 Z0 OLD CS hzc f2).back D0 0 (hw _ w_71) (hw _ w_3) (by decide) (by decide)) f1 rfl [] rfl (lenOf pd_12 rfl) rfl (Nat.le_of_eq rfl) (by decide) (by decide) d_jdk_42m56_1 rfl ?_
    intro v304 T304 q304 D304
    subst q304
    show Go p e below _ (T304.setTop (mkF m 4 #[.val (.ref x), .val (.int (2 : Int32))] [(.int (1 : Int32))]))
    refine g_ifN D304 7 d_jdk_42m56_4 (by decide) rfl ?_
    refine g_aloadN D304 8 d_jdk_42m56_7 rfl rfl rfl ?_
    refine g_getF D304 11 (hw _ w_21) Via.refl f3 d_jdk_42m56_8 rfl ?_
    intro T305 D305
    refine g_iloadN D305 12 d_jdk_42m56_11 rfl rfl ?_
    refine g_callSp D305 15 (hw _ w_72) (hw _ w_73) (hw _ w_74) (hw _ w_75) (by decide) ((cLCh_3_2 l Z a0 hw [] t kb fm c0 c1 c2 h0 n0 Z0 OLD SFm rfm f4 Hi (fu c2 (List.mem_of_getElem? (i := 2) rfl))).back D305 0 (hw _ w_75) (hw _ w_74) (by decide) (by decide)) rfl [(.ref t), (.int (2 : Int32))] rfl (lenOf pd_5 rfl) rfl (Nat.le_of_eq rfl) (by decide) (by decide) d_jdk_42m56_12 rfl ?_
    intro v306 T306 q306 D306
    subst q306
    show Go p e below _ (T306.setTop (mkF m 15 #[.val (.ref x), .val (.int (2 : Int32))] [(.int c2)]))
    exact r_N D306 hret (by simp) hlk d_jdk_42m56_15 ⟨congrArg (fun z => some (Value.int z)) (nar16 Hi), rfl, rfl⟩ (by decide) (by decide)
  · refine g_aloadN D0 1 d_jdk_42m56_0 rfl rfl rfl ?_
    refine g_callVp D0 4 (hw _ w_67) (hw _ w_68) (notFace_of_selects (args := #[]) (mvT D0.wm (hw _ w_70))) (hw _ w_70) (hw _ w_69) (by decide) ((cIL_1 l Z a0 hw [] x zc h0 n0 Z0 OLD CS hzc f2).back D0 0 (hw _ w_71) (hw _ w_3) (by decide) (by decide)) f1 rfl [] rfl (lenOf pd_12 rfl) rfl (Nat.le_of_eq rfl) (by decide) (by decide) d_jdk_42m56_1 rfl ?_
    intro v307 T307 q307 D307
    subst q307
    show Go p e below _ (T307.setTop (mkF m 4 #[.val (.ref x), .val (.int (2 : Int32))] [(.int (0 : Int32))]))
    refine g_ifY D307 16 d_jdk_42m56_4 (by decide) (by decide) (by decide) ?_
    refine g_aloadN D307 17 d_jdk_42m56_16 rfl rfl rfl ?_
    refine g_getF D307 20 (hw _ w_21) Via.refl f3 d_jdk_42m56_17 rfl ?_
    intro T308 D308
    refine g_iloadN D308 21 d_jdk_42m56_20 rfl rfl ?_
    refine g_callSp D308 24 (hw _ w_104) (hw _ w_105) (hw _ w_50) (hw _ w_106) (by decide) ((cUCh_3_2 l Z a0 hw [] t kb fm c0 c1 c2 h0 n0 Z0 OLD SA SH SL SFm rfm f4 Hi).back D308 0 (hw _ w_106) (hw _ w_50) (by decide) (by decide)) rfl [(.ref t), (.int (2 : Int32))] rfl (lenOf pd_5 rfl) rfl (Nat.le_of_eq rfl) (by decide) (by decide) d_jdk_42m56_21 rfl ?_
    intro v309 T309 q309 D309
    subst q309
    show Go p e below _ (T309.setTop (mkF m 24 #[.val (.ref x), .val (.int (2 : Int32))] [(.int c2)]))
    exact r_N D309 hret (by simp) hlk d_jdk_42m56_24 ⟨congrArg (fun z => some (Value.int z)) (nar16 Hi), rfl, rfl⟩ (by decide) (by decide)
set_option maxRecDepth 65536 in
set_option maxHeartbeats 40000000 in
theorem cCE_y (l : Launch) (Z : State) (a0 : Array Value) (hw : ∀ d ∈ tables_1, d.before a0 Z = true) (ws : List Jvm.Cond) (ch : Int32) (h0 : Heap) (n0 : Nat) (Z0 : n0 ≤ h0.size) (hq : ¬ (255 : Int32) < ch) :
    Con l (⟨"java/lang/StringLatin1", "canEncode", "(C)Z"⟩ : MethodName) jdk_43_method_3_code 1 (some .boolean) ws ({ frames := 0, cells := 0, slots := 0, locals := 0 } : Room) Z #[(.int ch)] h0 (fun v h L => v = some (.int (1 : Int32)) ∧ L = [] ∧ h = h0) 0 0 := by
  refine enter (plainFor_of_name pn_3) ?_
  intro p e s m below meth c s₁ hnm hret hlk D0
  rw [ef_cCE_y m ch]
  refine g_iloadN D0 1 d_jdk_43m3_0 rfl rfl ?_
  refine g_sipush D0 4 (255 : Int32) d_jdk_43m3_1 rfl rfl ?_
  refine g_icmpN D0 7 d_jdk_43m3_4 (flt hq).2.2.1 rfl ?_
  refine g_iconst D0 8 (1 : Int32) d_jdk_43m3_7 rfl rfl ?_
  refine g_goto D0 12 d_jdk_43m3_8 (by decide) (by decide) ?_
  exact r_N D0 hret (by simp) hlk d_jdk_43m3_12 ⟨(by decide : some (Value.int (nar .boolean (1 : Int32))) = some (.int (1 : Int32))), rfl, rfl⟩ (by decide) (by decide)
set_option maxRecDepth 65536 in
set_option maxHeartbeats 40000000 in
theorem cCE_n (l : Launch) (Z : State) (a0 : Array Value) (hw : ∀ d ∈ tables_1, d.before a0 Z = true) (ws : List Jvm.Cond) (ch : Int32) (h0 : Heap) (n0 : Nat) (Z0 : n0 ≤ h0.size) (hq : (255 : Int32) < ch) :
    Con l (⟨"java/lang/StringLatin1", "canEncode", "(C)Z"⟩ : MethodName) jdk_43_method_3_code 1 (some .boolean) ws ({ frames := 0, cells := 0, slots := 0, locals := 0 } : Room) Z #[(.int ch)] h0 (fun v h L => v = some (.int (0 : Int32)) ∧ L = [] ∧ h = h0) 0 0 := by
  refine enter (plainFor_of_name pn_3) ?_
  intro p e s m below meth c s₁ hnm hret hlk D0
  rw [ef_cCE_n m ch]
  refine g_iloadN D0 1 d_jdk_43m3_0 rfl rfl ?_
  refine g_sipush D0 4 (255 : Int32) d_jdk_43m3_1 rfl rfl ?_
  refine g_icmpY D0 11 d_jdk_43m3_4 (tlt hq).2.2.1 (by decide) (by decide) ?_
  refine g_iconst D0 12 (0 : Int32) d_jdk_43m3_11 rfl rfl ?_
  exact r_N D0 hret (by simp) hlk d_jdk_43m3_12 ⟨(by decide : some (Value.int (nar .boolean (0 : Int32))) = some (.int (0 : Int32))), rfl, rfl⟩ (by decide) (by decide)
def Q_cTL (Z : State) (ch : Int32) (h0 : Heap) (n0 : Nat) : Option Value → Heap → List Loc → Prop := (fun v h L => ∃ a k, v = some (.ref a) ∧ h0.size ≤ a ∧ Fr n0 L ∧ Ext h0 h ∧ Arv Z h a k .byte (1 : Int32) [(.int (StrChars.lo8 ch))] (.int (0 : Int32)))
set_option maxRecDepth 65536 in
set_option maxHeartbeats 40000000 in
theorem cTL (l : Launch) (Z : State) (a0 : Array Value) (hw : ∀ d ∈ tables_1, d.before a0 Z = true) (ws : List Jvm.Cond) (ch : Int32) (h0 : Heap) (n0 : Nat) (Z0 : n0 ≤ h0.size)  :
    Con l (⟨"java/lang/StringLatin1", "toBytes", "(C)[B"⟩ : MethodName) jdk_43_method_46_code 1 (some (.array .byte)) ws ({ frames := 0, cells := 1, slots := 1, locals := 0 } : Room) Z #[(.int ch)] h0 (Q_cTL Z ch h0 n0) 1 1 := by
  refine enter (plainFor_of_name pn_3) ?_
  intro p e s m below meth c s₁ hnm hret hlk D0
  rw [ef_cTL m ch]
  refine g_iconst D0 1 (1 : Int32) d_jdk_43m46_0 rfl rfl ?_
  refine g_newP D0 3 (aty := .byte) (hw _ w_16) d_jdk_43m46_1 (by decide) (cap := 1) (by decide) (by decide) (by decide) (by decide) (fun _ _ => trivial) rfl ?_
  intro T310 h310 a310 k310 g310 E310 V310 D310
  have V310' : Arv Z h310 a310 k310 .byte (1 : Int32) [(.int (0 : Int32))] (.int (0 : Int32)) := V310.pad (pad_rep [] (.int (0 : Int32)) 1)
  refine g_dup D310 4 d_jdk_43m46_3 rfl rfl ?_
  refine g_iconst D310 5 (0 : Int32) d_jdk_43m46_4 rfl rfl ?_
  refine g_iloadN D310 6 d_jdk_43m46_5 rfl rfl ?_
  refine g_i2b D310 7 d_jdk_43m46_6 rfl ?_
  refine g_bastore D310 8 V310' ⟨by decide, by decide⟩ 0 (by decide) (Nat.le_of_ble_eq_true rfl) (fun _ _ => trivial) d_jdk_43m46_7 rfl ?_
  intro T311 h311 W311 V311 D311
  rw [nb_b ch] at V311
  replace V311 : Arv Z h311 a310 k310 .byte (1 : Int32) [(.int (StrChars.lo8 ch))] (.int (0 : Int32)) := V311
  have N311 := Fr.snoc D311.st (Fr.nil n0) (Nat.le_trans Z0 (Nat.le_of_eq g310.symm))
  exact r_A D311 hret rfl rfl hlk d_jdk_43m46_8 ⟨a310, _, rfl, (Nat.le_trans (Nat.le_refl _) (Nat.le_of_eq g310.symm)), N311, Keep.toExt (((Keep.refl _ []).ext E310).wr W311 (Or.inr (Nat.le_trans (Nat.le_refl _) (Nat.le_of_eq g310.symm)))), V311⟩ (by decide) (by decide)
def Q_cTU (Z : State) (ch : Int32) (h0 : Heap) (n0 : Nat) : Option Value → Heap → List Loc → Prop := (fun v h L => ∃ a k, v = some (.ref a) ∧ h0.size ≤ a ∧ Fr n0 L ∧ Ext h0 h ∧ Arv Z h a k .byte (2 : Int32) (StrChars.Road.wideBytes [ch]) (.int (0 : Int32)))
set_option maxRecDepth 65536 in
set_option maxHeartbeats 40000000 in
theorem cTU (l : Launch) (Z : State) (a0 : Array Value) (hw : ∀ d ∈ tables_1, d.before a0 Z = true) (ws : List Jvm.Cond) (ch : Int32) (h0 : Heap) (n0 : Nat) (Z0 : n0 ≤ h0.size) (OLD : Old Z n0 h0) (SA : Sta Z Z.heap "java/lang/StringUTF16" "$assertionsDisabled" "Z" (.int (1 : Int32))) (SH : Sta Z Z.heap "java/lang/StringUTF16" "HI_BYTE_SHIFT" "I" (.int (0 : Int32))) (SL : Sta Z Z.heap "java/lang/StringUTF16" "LO_BYTE_SHIFT" "I" (.int (8 : Int32))) :
    Con l (⟨"java/lang/StringUTF16", "toBytes", "(C)[B"⟩ : MethodName) jdk_52_method_24_code 2 (some (.array .byte)) ws ({ frames := 1, cells := 1, slots := 2, locals := 14 } : Room) Z #[(.int ch)] h0 (Q_cTU Z ch h0 n0) 1 2 := by
  refine enter (plainFor_of_name pn_0) ?_
  intro p e s m below meth c s₁ hnm hret hlk D0
  rw [ef_cTU m ch]
  refine g_iconst D0 1 (2 : Int32) d_jdk_52m24_0 rfl rfl ?_
  refine g_newP D0 3 (aty := .byte) (hw _ w_16) d_jdk_52m24_1 (by decide) (cap := 2) (by decide) (by decide) (by decide) (by decide) (fun _ _ => trivial) rfl ?_
  intro T312 h312 a312 k312 g312 E312 V312 D312
  have V312' : Arv Z h312 a312 k312 .byte (2 : Int32) [(.int (0 : Int32)), (.int (0 : Int32))] (.int (0 : Int32)) := V312.pad (pad_rep [] (.int (0 : Int32)) 2)
  refine g_astoreN D312 4 #[.val (.int ch), .val (.ref a312)] d_jdk_52m24_3 rfl rfl rfl ?_
  refine g_aloadN D312 5 d_jdk_52m24_4 rfl rfl rfl ?_
  refine g_iconst D312 6 (0 : Int32) d_jdk_52m24_5 rfl rfl ?_
  refine g_iloadN D312 7 d_jdk_52m24_6 rfl rfl ?_
  refine g_callS D312 10 (hw _ w_95) (hw _ w_96) (hw _ w_50) (hw _ w_97) (by decide) ((cPut_1_0 l Z a0 hw [] a312 k312 ch (.int (0 : Int32)) (.int (0 : Int32)) h312 n0 (Nat.le_trans Z0 E312.1) (OLD.ext E312) SA SH SL V312' (Nat.le_trans Z0 (Nat.le_of_eq g312.symm))).back D312 0 (hw _ w_97) (hw _ w_50) (by decide) (by decide)) rfl [(.ref a312), (.int (0 : Int32)), (.int ch)] rfl (lenOf pd_2 rfl) rfl (Nat.le_of_eq rfl) (by decide) (by decide) (fun _ _ _ _ => trivial) d_jdk_52m24_7 rfl ?_
  intro v313 T313 h313 L313 q313 D313
  obtain ⟨rfl, N313, K313, V313⟩ := q313
  have NF313 := Fr.app (Fr.nil n0) N313
  show Go p e below _ (T313.setTop (mkF m 10 #[.val (.int ch), .val (.ref a312)] []))
  refine g_aloadN D313 11 d_jdk_52m24_10 rfl rfl rfl ?_
  exact r_A D313 hret rfl rfl hlk d_jdk_52m24_11 ⟨a312, _, rfl, (Nat.le_trans (Nat.le_refl _) (Nat.le_of_eq g312.symm)), NF313, Keep.toExt (((Keep.refl _ []).ext E312).trans K313 (allS (Or.inr (Nat.le_trans (Nat.le_refl _) (Nat.le_of_eq g312.symm))) all0)), V313⟩ (by decide) (by decide)
def Q_cBB_0 (Z : State) (x t : Addr) (h0 : Heap) (n0 : Nat) : Option Value → Heap → List Loc → Prop := (fun v h L => v = none ∧ Fr n0 L ∧ Keep h0 h [x] ∧ Exa Z h x "java/lang/String" ∧ Fld Z h x "java/lang/String" "coder" "B" (.int (0 : Int32)) ∧ Fld Z h x "java/lang/String" "value" "[B" (.ref t))
set_option maxRecDepth 65536 in
set_option maxHeartbeats 40000000 in
theorem cBB_0 (l : Launch) (Z : State) (a0 : Array Value) (hw : ∀ d ∈ tables_1, d.before a0 Z = true) (ws : List Jvm.Cond) (x t : Addr) (h0 : Heap) (n0 : Nat) (Z0 : n0 ≤ h0.size) (E_x : Exa Z h0 x "java/lang/String") (F_v : Fld Z h0 x "java/lang/String" "value" "[B" .null) (F_c : Fld Z h0 x "java/lang/String" "coder" "B" (.int (0 : Int32))) (gx : n0 ≤ x) :
    Con l (⟨"java/lang/String", "<init>", "([BB)V"⟩ : MethodName) jdk_42_method_151_code 3 none ws ({ frames := 1, cells := 0, slots := 0, locals := 12 } : Room) Z #[(.ref x), (.ref t), (.int (0 : Int32))] h0 (Q_cBB_0 Z x t h0 n0) 0 0 := by
  refine enter (plainFor_of_name pn_1) ?_
  intro p e s m below meth c s₁ hnm hret hlk D0
  rw [ef_cBB_0 m x t]
  refine g_aloadN D0 1 d_jdk_42m151_0 rfl rfl rfl ?_
  refine g_initO D0 4 (hw _ w_12) (hw _ w_13) (hw _ w_14) rfl d_jdk_42m151_1 (by decide) (W := 0) (Nat.le_of_eq rfl) (by decide) rfl ?_
  intro T314 D314
  refine g_aloadN D314 5 d_jdk_42m151_4 rfl rfl rfl ?_
  refine g_aloadN D314 6 d_jdk_42m151_5 rfl rfl rfl ?_
  refine g_putF D314 9 (hw _ w_21) Via.refl F_v E_x (Or.inr ⟨(hw _ w_17), rfl, hnm⟩) (hw _ w_2) (ty := (.array .byte)) (by decide) rfl rfl (fun _ _ => trivial) d_jdk_42m151_6 rfl ?_
  intro T315 h315 W315 D315
  have N315 := Fr.snoc D315.st (Fr.nil n0) gx
  have F315 := F_v.same W315
  refine g_aloadN D315 10 d_jdk_42m151_9 rfl rfl rfl ?_
  refine g_iloadN D315 11 d_jdk_42m151_10 rfl rfl ?_
  refine g_putF D315 14 (hw _ w_22) Via.refl (F_c.other W315 (Or.inr (slot_ne (Or.inr (hw _ w_18)) (Or.inr (hw _ w_17)) (by decide) (t := .byte) (t' := (.array .byte)) (by decide) (by decide)))) (E_x.wr W315) (Or.inr ⟨(hw _ w_18), rfl, hnm⟩) (hw _ w_2) (ty := .byte) (by decide) rfl rfl (fun _ _ => trivial) d_jdk_42m151_11 rfl ?_
  intro T316 h316 W316 D316
  have N316 := Fr.snoc D316.st N315 gx
  have F316 := (F_c.other W315 (Or.inr (slot_ne (Or.inr (hw _ w_18)) (Or.inr (hw _ w_17)) (by decide) (t := .byte) (t' := (.array .byte)) (by decide) (by decide)))).same W316
  exact r_V D316 hret hlk d_jdk_42m151_14 ⟨rfl, N316, (((Keep.refl _ [x]).wr W315 (Or.inl (List.mem_of_getElem? (i := 0) rfl))).wr W316 (Or.inl (List.mem_of_getElem? (i := 0) rfl))), ((E_x.wr W315).wr W316), F316, (F315.other W316 (Or.inr (slot_ne (Or.inr (hw _ w_17)) (Or.inr (hw _ w_18)) (by decide) (t := (.array .byte)) (t' := .byte) (by decide) (by decide))))⟩ (by decide) (by decide)
def Q_cBB_1 (Z : State) (x t : Addr) (h0 : Heap) (n0 : Nat) : Option Value → Heap → List Loc → Prop := (fun v h L => v = none ∧ Fr n0 L ∧ Keep h0 h [x] ∧ Exa Z h x "java/lang/String" ∧ Fld Z h x "java/lang/String" "coder" "B" (.int (1 : Int32)) ∧ Fld Z h x "java/lang/String" "value" "[B" (.ref t))
set_option maxRecDepth 65536 in
set_option maxHeartbeats 40000000 in
theorem cBB_1 (l : Launch) (Z : State) (a0 : Array Value) (hw : ∀ d ∈ tables_1, d.before a0 Z = true) (ws : List Jvm.Cond) (x t : Addr) (h0 : Heap) (n0 : Nat) (Z0 : n0 ≤ h0.size) (E_x : Exa Z h0 x "java/lang/String") (F_v : Fld Z h0 x "java/lang/String" "value" "[B" .null) (F_c : Fld Z h0 x "java/lang/String" "coder" "B" (.int (0 : Int32))) (gx : n0 ≤ x) :
    Con l (⟨"java/lang/String", "<init>", "([BB)V"⟩ : MethodName) jdk_42_method_151_code 3 none ws ({ frames := 1, cells := 0, slots := 0, locals := 12 } : Room) Z #[(.ref x), (.ref t), (.int (1 : Int32))] h0 (Q_cBB_1 Z x t h0 n0) 0 0 := by
  refine enter (plainFor_of_name pn_1) ?_
  intro p e s m below meth c s₁ hnm hret hlk D0
  rw [ef_cBB_1 m x t]
  refine g_aloadN D0 1 d_jdk_42m151_0 rfl rfl rfl ?_
  refine g_initO D0 4 (hw _ w_12) (hw _ w_13) (hw _ w_14) rfl d_jdk_42m151_1 (by decide) (W := 0) (Nat.le_of_eq rfl) (by decide) rfl ?_
  intro T317 D317
  refine g_aloadN D317 5 d_jdk_42m151_4 rfl rfl rfl ?_
  refine g_aloadN D317 6 d_jdk_42m151_5 rfl rfl rfl ?_
  refine g_putF D317 9 (hw _ w_21) Via.refl F_v E_x (Or.inr ⟨(hw _ w_17), rfl, hnm⟩) (hw _ w_2) (ty := (.array .byte)) (by decide) rfl rfl (fun _ _ => trivial) d_jdk_42m151_6 rfl ?_
  intro T318 h318 W318 D318
  have N318 := Fr.snoc D318.st (Fr.nil n0) gx
  have F318 := F_v.same W318
  refine g_aloadN D318 10 d_jdk_42m151_9 rfl rfl rfl ?_
  refine g_iloadN D318 11 d_jdk_42m151_10 rfl rfl ?_
  refine g_putF D318 14 (hw _ w_22) Via.refl (F_c.other W318 (Or.inr (slot_ne (Or.inr (hw _ w_18)) (Or.inr (hw _ w_17)) (by decide) (t := .byte) (t' := (.array .byte)) (by decide) (by decide)))) (E_x.wr W318) (Or.inr ⟨(hw _ w_18), rfl, hnm⟩) (hw _ w_2) (ty := .byte) (by decide) rfl rfl (fun _ _ => trivial) d_jdk_42m151_11 rfl ?_
  intro T319 h319 W319 D319
  have N319 := Fr.snoc D319.st N318 gx
  have F319 := (F_c.other W318 (Or.inr (slot_ne (Or.inr (hw _ w_18)) (Or.inr (hw _ w_17)) (by decide) (t := .byte) (t' := (.array .byte)) (by decide) (by decide)))).same W319
  exact r_V D319 hret hlk d_jdk_42m151_14 ⟨rfl, N319, (((Keep.refl _ [x]).wr W318 (Or.inl (List.mem_of_getElem? (i := 0) rfl))).wr W319 (Or.inl (List.mem_of_getElem? (i := 0) rfl))), ((E_x.wr W318).wr W319), F319, (F318.other W319 (Or.inr (slot_ne (Or.inr (hw _ w_17)) (Or.inr (hw _ w_18)) (by decide) (t := (.array .byte)) (t' := .byte) (by decide) (by decide))))⟩ (by decide) (by decide)
def Q_cVal (Z : State) (ch zc : Int32) (h0 : Heap) (n0 : Nat) : Option Value → Heap → List Loc → Prop := (fun v h L => ∃ a, v = some (.ref a) ∧ Fr n0 L ∧ Ext h0 h ∧ TS Z h a [ch])
set_option maxRecDepth 65536 in
set_option maxHeartbeats 40000000 in
theorem cVal (l : Launch) (Z : State) (a0 : Array Value) (hw : ∀ d ∈ tables_1, d.before a0 Z = true) (ws : List Jvm.Cond) (ch zc : Int32) (h0 : Heap) (n0 : Nat) (Z0 : n0 ≤ h0.size) (OLD : Old Z n0 h0) (SA : Sta Z Z.heap "java/lang/StringUTF16" "$assertionsDisabled" "Z" (.int (1 : Int32))) (SH : Sta Z Z.heap "java/lang/StringUTF16" "HI_BYTE_SHIFT" "I" (.int (0 : Int32))) (SL : Sta Z Z.heap "java/lang/StringUTF16" "LO_BYTE_SHIFT" "I" (.int (8 : Int32))) (CS : Sta Z Z.heap "java/lang/String" "COMPACT_STRINGS" "Z" (.int zc)) (hzc : ¬ zc = 0) (Hc : C16 ch) :
    Con l (⟨"java/lang/String", "valueOf", "(C)Ljava/lang/String;"⟩ : MethodName) jdk_42_method_139_code 1 (some (.object "java/lang/String")) ws ({ frames := 2, cells := 2, slots := 6, locals := 40 } : Room) Z #[(.int ch)] h0 (Q_cVal Z ch zc h0 n0) 2 6 := by
  refine enter (plainFor_of_name pn_1) ?_
  intro p e s m below meth c s₁ hnm hret hlk D0
  rw [ef_cVal m ch]
  refine g_getS D0 3 (hw _ w_45) Via.refl (CS.ext OLD.2) d_jdk_42m139_0 rfl ?_
  intro T320 D320
  refine g_ifN D320 6 d_jdk_42m139_3 (feq hzc).1 rfl ?_
  refine g_iloadN D320 7 d_jdk_42m139_6 rfl rfl ?_
  by_cases hq : (255 : Int32) < ch
  · refine g_callSp D320 10 (hw _ w_117) (hw _ w_118) (hw _ w_74) (hw _ w_119) (by decide) ((cCE_n l Z a0 hw [] ch h0 n0 Z0 hq).back D320 0 (hw _ w_119) (hw _ w_74) (by decide) (by decide)) rfl [(.int ch)] rfl (lenOf pd_13 rfl) rfl (Nat.le_of_eq rfl) (by decide) (by decide) d_jdk_42m139_7 rfl ?_
    intro v321 T321 q321 D321
    subst q321
    show Go p e below _ (T321.setTop (mkF m 10 #[.val (.int ch)] [(.int (0 : Int32))]))
    refine g_ifY D321 26 d_jdk_42m139_10 (by decide) (by decide) (by decide) ?_
    refine g_newO D321 29 (hw _ w_120) (hw _ w_2) (hw _ w_3) d_jdk_42m139_26 (by decide) (by decide) (fun _ _ => trivial) rfl ?_
    intro T322 h322 a322 g322 E322 A322 N322 D322
    refine g_dup D322 30 d_jdk_42m139_29 rfl rfl ?_
    refine g_iloadN D322 31 d_jdk_42m139_30 rfl rfl ?_
    refine g_callS D322 34 (hw _ w_127) (hw _ w_128) (hw _ w_50) (hw _ w_129) (by decide) ((cTU l Z a0 hw [] ch h322 n0 (Nat.le_trans Z0 E322.1) (OLD.ext E322) SA SH SL).back D322 2 (hw _ w_129) (hw _ w_50) (by decide) (by decide)) rfl [(.int ch)] rfl (lenOf pd_14 rfl) rfl (Nat.le_of_eq rfl) (by decide) (by decide) (fun _ _ _ _ => trivial) d_jdk_42m139_31 rfl ?_
    intro v323 T323 h323 L323 q323 D323
    obtain ⟨t323, k323, rfl, g323, N323, E323, V323⟩ := q323
    have NF323 := Fr.app (Fr.nil n0) N323
    show Go p e below _ (T323.setTop (mkF m 34 #[.val (.int ch)] [(.ref t323), (.ref a322), (.ref a322)]))
    refine g_iconst D323 35 (1 : Int32) d_jdk_42m139_34 rfl rfl ?_
    refine g_callN D323 38 rfl (hw _ w_124) (hw _ w_125) (hw _ w_126) (by decide) ((cBB_1 l Z a0 hw [] a322 t323 h323 n0 (Nat.le_trans (Nat.le_trans Z0 E322.1) E323.1) (A322.ext E323) ((N322 (Or.inr (hw _ w_17)) (ty := (.array .byte)) (by decide)).ext E323) ((N322 (Or.inr (hw _ w_18)) (ty := .byte) (by decide)).ext E323) (Nat.le_trans Z0 (Nat.le_of_eq g322.symm))).back D323 1 (hw _ w_126) (hw _ w_3) (by decide) (by decide)) rfl [(.ref t323), (.int (1 : Int32))] rfl (lenOf pd_15 rfl) rfl (Nat.le_of_eq rfl) (by decide) (by decide) (fun _ _ _ _ => trivial) d_jdk_42m139_35 rfl ?_
    intro v324 T324 h324 L324 q324 D324
    obtain ⟨rfl, N324, K324, A324, C324, F324⟩ := q324
    have NF324 := Fr.app NF323 N324
    show Go p e below _ (T324.setTop (mkF m 38 #[.val (.int ch)] [(.ref a322)]))
    exact r_A D324 hret rfl rfl hlk d_jdk_42m139_38 ⟨a322, rfl, NF324, Keep.toExt ((((Keep.refl _ []).ext E322).ext E323).trans K324 (allS (Or.inr (Nat.le_trans (Nat.le_refl _) (Nat.le_of_eq g322.symm))) all0)), t323, k323, (1 : Int32), _, _, A324, C324, F324, (V323.keep K324 (ninS (Ne.symm (Nat.ne_of_lt (Nat.lt_of_lt_of_le A322.lt g323))) nin0)), Or.inr ⟨rfl, rfl, rfl, ch, List.mem_of_getElem? (i := 0) rfl, hq⟩, c16_cons Hc c16_nil, Nat.le_of_ble_eq_true rfl⟩ (by decide) (by decide)
  · refine g_callSp D320 10 (hw _ w_117) (hw _ w_118) (hw _ w_74) (hw _ w_119) (by decide) ((cCE_y l Z a0 hw [] ch h0 n0 Z0 hq).back D320 0 (hw _ w_119) (hw _ w_74) (by decide) (by decide)) rfl [(.int ch)] rfl (lenOf pd_13 rfl) rfl (Nat.le_of_eq rfl) (by decide) (by decide) d_jdk_42m139_7 rfl ?_
    intro v325 T325 q325 D325
    subst q325
    show Go p e below _ (T325.setTop (mkF m 10 #[.val (.int ch)] [(.int (1 : Int32))]))
    refine g_ifN D325 13 d_jdk_42m139_10 (by decide) rfl ?_
    refine g_newO D325 16 (hw _ w_120) (hw _ w_2) (hw _ w_3) d_jdk_42m139_13 (by decide) (by decide) (fun _ _ => trivial) rfl ?_
    intro T326 h326 a326 g326 E326 A326 N326 D326
    refine g_dup D326 17 d_jdk_42m139_16 rfl rfl ?_
    refine g_iloadN D326 18 d_jdk_42m139_17 rfl rfl ?_
    refine g_callS D326 21 (hw _ w_121) (hw _ w_122) (hw _ w_74) (hw _ w_123) (by decide) ((cTL l Z a0 hw [] ch h326 n0 (Nat.le_trans Z0 E326.1)).back D326 2 (hw _ w_123) (hw _ w_74) (by decide) (by decide)) rfl [(.int ch)] rfl (lenOf pd_14 rfl) rfl (Nat.le_of_eq rfl) (by decide) (by decide) (fun _ _ _ _ => trivial) d_jdk_42m139_18 rfl ?_
    intro v327 T327 h327 L327 q327 D327
    obtain ⟨t327, k327, rfl, g327, N327, E327, V327⟩ := q327
    have NF327 := Fr.app (Fr.nil n0) N327
    show Go p e below _ (T327.setTop (mkF m 21 #[.val (.int ch)] [(.ref t327), (.ref a326), (.ref a326)]))
    refine g_iconst D327 22 (0 : Int32) d_jdk_42m139_21 rfl rfl ?_
    refine g_callN D327 25 rfl (hw _ w_124) (hw _ w_125) (hw _ w_126) (by decide) ((cBB_0 l Z a0 hw [] a326 t327 h327 n0 (Nat.le_trans (Nat.le_trans Z0 E326.1) E327.1) (A326.ext E327) ((N326 (Or.inr (hw _ w_17)) (ty := (.array .byte)) (by decide)).ext E327) ((N326 (Or.inr (hw _ w_18)) (ty := .byte) (by decide)).ext E327) (Nat.le_trans Z0 (Nat.le_of_eq g326.symm))).back D327 1 (hw _ w_126) (hw _ w_3) (by decide) (by decide)) rfl [(.ref t327), (.int (0 : Int32))] rfl (lenOf pd_15 rfl) rfl (Nat.le_of_eq rfl) (by decide) (by decide) (fun _ _ _ _ => trivial) d_jdk_42m139_22 rfl ?_
    intro v328 T328 h328 L328 q328 D328
    obtain ⟨rfl, N328, K328, A328, C328, F328⟩ := q328
    have NF328 := Fr.app NF327 N328
    show Go p e below _ (T328.setTop (mkF m 25 #[.val (.int ch)] [(.ref a326)]))
    exact r_A D328 hret rfl rfl hlk d_jdk_42m139_25 ⟨a326, rfl, NF328, Keep.toExt ((((Keep.refl _ []).ext E326).ext E327).trans K328 (allS (Or.inr (Nat.le_trans (Nat.le_refl _) (Nat.le_of_eq g326.symm))) all0)), t327, k327, (0 : Int32), _, _, A328, C328, F328, (V327.keep K328 (ninS (Ne.symm (Nat.ne_of_lt (Nat.lt_of_lt_of_le A326.lt g327))) nin0)), Or.inl ⟨rfl, rfl, rfl, u8_cons hq u8_nil⟩, c16_cons Hc c16_nil, Nat.le_of_ble_eq_true rfl⟩ (by decide) (by decide)
set_option maxRecDepth 65536 in
set_option maxHeartbeats 40000000 in
theorem cFn (l : Launch) (Z : State) (a0 : Array Value) (hw : ∀ d ∈ tables_1, d.before a0 Z = true) (ws : List Jvm.Cond) (kk : Int64) (u : Int32) (h0 : Heap) (n0 : Nat) (Z0 : n0 ≤ h0.size)  :
    Con l (⟨"com/example/ocotillo/ocotillo/store/MessageIndexHashPinLaw", "fnvStep", "(JC)J"⟩ : MethodName) method_2_code 3 (some .long) ws ({ frames := 0, cells := 0, slots := 0, locals := 0 } : Room) Z #[(.long kk), (.int u)] h0 (fun v h L => v = some (.long (own_st kk u)) ∧ L = [] ∧ h = h0) 0 0 := by
  refine enter (plainFor_of_name pn_4) ?_
  intro p e s m below meth c s₁ hnm hret hlk D0
  rw [ef_cFn m kk u]
  refine g_lloadN D0 1 d_method_2_0 rfl rfl ?_
  refine g_iloadN D0 2 d_method_2_1 rfl rfl ?_
  refine g_i2l D0 3 d_method_2_2 rfl ?_
  refine g_lxor D0 4 d_method_2_3 rfl ?_
  refine g_ldc2J D0 7 (hw _ w_61) d_method_2_4 rfl ?_
  refine g_lmul D0 8 d_method_2_7 rfl ?_
  exact r_J D0 hret hlk d_method_2_8 ⟨rfl, rfl, rfl⟩ (by decide) (by decide)
set_option maxRecDepth 65536 in
set_option maxHeartbeats 40000000 in
theorem cMx (l : Launch) (Z : State) (a0 : Array Value) (hw : ∀ d ∈ tables_1, d.before a0 Z = true) (ws : List Jvm.Cond) (kk : Int64) (h0 : Heap) (n0 : Nat) (Z0 : n0 ≤ h0.size)  :
    Con l (⟨"com/example/ocotillo/ocotillo/store/MessageIndexHashPinLaw", "fmix64", "(J)J"⟩ : MethodName) method_3_code 2 (some .long) ws ({ frames := 0, cells := 0, slots := 0, locals := 0 } : Room) Z #[(.long kk)] h0 (fun v h L => v = some (.long (own_mx kk)) ∧ L = [] ∧ h = h0) 0 0 := by
  refine enter (plainFor_of_name pn_4) ?_
  intro p e s m below meth c s₁ hnm hret hlk D0
  rw [ef_cMx m kk]
  refine g_lloadN D0 1 d_method_3_0 rfl rfl ?_
  refine g_lloadN D0 2 d_method_3_1 rfl rfl ?_
  refine g_bipush D0 4 (33 : Int32) d_method_3_2 rfl rfl ?_
  refine g_lushr D0 5 d_method_3_4 rfl ?_
  refine g_lxor D0 6 d_method_3_5 rfl ?_
  refine g_lstoreN D0 7 #[.val (.long (kk ^^^ (XT.ushrL kk (33 : Int32)))), .second] d_method_3_6 rfl rfl ?_
  refine g_lloadN D0 8 d_method_3_7 rfl rfl ?_
  refine g_ldc2J D0 11 (hw _ w_28) d_method_3_8 rfl ?_
  refine g_lmul D0 12 d_method_3_11 rfl ?_
  refine g_lstoreN D0 13 #[.val (.long ((kk ^^^ (XT.ushrL kk (33 : Int32))) * (-49064778989728563 : Int64))), .second] d_method_3_12 rfl rfl ?_
  refine g_lloadN D0 14 d_method_3_13 rfl rfl ?_
  refine g_lloadN D0 15 d_method_3_14 rfl rfl ?_
  refine g_bipush D0 17 (33 : Int32) d_method_3_15 rfl rfl ?_
  refine g_lushr D0 18 d_method_3_17 rfl ?_
  refine g_lxor D0 19 d_method_3_18 rfl ?_
  refine g_lstoreN D0 20 #[.val (.long (((kk ^^^ (XT.ushrL kk (33 : Int32))) * (-49064778989728563 : Int64)) ^^^ (XT.ushrL ((kk ^^^ (XT.ushrL kk (33 : Int32))) * (-49064778989728563 : Int64)) (33 : Int32)))), .second] d_method_3_19 rfl rfl ?_
  refine g_lloadN D0 21 d_method_3_20 rfl rfl ?_
  refine g_ldc2J D0 24 (hw _ w_29) d_method_3_21 rfl ?_
  refine g_lmul D0 25 d_method_3_24 rfl ?_
  refine g_lstoreN D0 26 #[.val (.long ((((kk ^^^ (XT.ushrL kk (33 : Int32))) * (-49064778989728563 : Int64)) ^^^ (XT.ushrL ((kk ^^^ (XT.ushrL kk (33 : Int32))) * (-49064778989728563 : Int64)) (33 : Int32))) * (-4265267296055464877 : Int64))), .second] d_method_3_25 rfl rfl ?_
  refine g_lloadN D0 27 d_method_3_26 rfl rfl ?_
  refine g_lloadN D0 28 d_method_3_27 rfl rfl ?_
  refine g_bipush D0 30 (33 : Int32) d_method_3_28 rfl rfl ?_
  refine g_lushr D0 31 d_method_3_30 rfl ?_
  refine g_lxor D0 32 d_method_3_31 rfl ?_
  refine g_lstoreN D0 33 #[.val (.long (((((kk ^^^ (XT.ushrL kk (33 : Int32))) * (-49064778989728563 : Int64)) ^^^ (XT.ushrL ((kk ^^^ (XT.ushrL kk (33 : Int32))) * (-49064778989728563 : Int64)) (33 : Int32))) * (-4265267296055464877 : Int64)) ^^^ (XT.ushrL ((((kk ^^^ (XT.ushrL kk (33 : Int32))) * (-49064778989728563 : Int64)) ^^^ (XT.ushrL ((kk ^^^ (XT.ushrL kk (33 : Int32))) * (-49064778989728563 : Int64)) (33 : Int32))) * (-4265267296055464877 : Int64)) (33 : Int32)))), .second] d_method_3_32 rfl rfl ?_
  refine g_lloadN D0 34 d_method_3_33 rfl rfl ?_
  exact r_J D0 hret hlk d_method_3_34 ⟨rfl, rfl, rfl⟩ (by decide) (by decide)
set_option maxRecDepth 65536 in
set_option maxHeartbeats 40000000 in
theorem cHa_0 (l : Launch) (Z : State) (a0 : Array Value) (hw : ∀ d ∈ tables_1, d.before a0 Z = true) (ws : List Jvm.Cond) (x : Addr) (zc : Int32) (fm : Value)  (h0 : Heap) (n0 : Nat) (Z0 : n0 ≤ h0.size) (OLD : Old Z n0 h0) (SA : Sta Z Z.heap "java/lang/StringUTF16" "$assertionsDisabled" "Z" (.int (1 : Int32))) (SH : Sta Z Z.heap "java/lang/StringUTF16" "HI_BYTE_SHIFT" "I" (.int (0 : Int32))) (SL : Sta Z Z.heap "java/lang/StringUTF16" "LO_BYTE_SHIFT" "I" (.int (8 : Int32))) (CS : Sta Z Z.heap "java/lang/String" "COMPACT_STRINGS" "Z" (.int zc)) (hzc : ¬ zc = 0) (SFm : Sta Z Z.heap "jdk/internal/util/Preconditions" "SIOOBE_FORMATTER" "Ljava/util/function/BiFunction;" fm) (rfm : fm.isRef = true) (X_x : TS Z h0 x []) :
    Con l (⟨"com/example/ocotillo/ocotillo/store/MessageIndex", "hash", "(Ljava/lang/String;)I"⟩ : MethodName) prog_21_method_10_code 4 (some .int) ws ({ frames := 5, cells := 0, slots := 0, locals := 68 } : Room) Z #[(.ref x)] h0 (fun v h L => v = some (.int (own_ex (-3750763034362895579 : Int64))) ∧ L = [] ∧ h = h0) 0 0 := by
  refine enter (plainFor_of_name pn_5) ?_
  intro p e s m below meth c s₁ hnm hret hlk D0
  rw [ef_cHa_0 m x]
  refine g_ldc2J D0 3 (hw _ w_34) d_prog_21m10_0 rfl ?_
  refine g_lstoreN D0 4 #[.val (.ref x), .val (.long (-3750763034362895579 : Int64)), .second, .unset] d_prog_21m10_3 rfl rfl ?_
  refine g_iconst D0 5 (0 : Int32) d_prog_21m10_4 rfl rfl ?_
  refine g_istoreN D0 6 #[.val (.ref x), .val (.long (-3750763034362895579 : Int64)), .second, .val (.int (0 : Int32))] d_prog_21m10_5 rfl rfl ?_
  refine g_iloadN D0 7 d_prog_21m10_6 rfl rfl ?_
  refine g_aloadN D0 8 d_prog_21m10_7 rfl rfl rfl ?_
  refine g_callVp D0 11 (hw _ w_35) (hw _ w_36) (notFace_of_selects (args := #[]) (mvT D0.wm (hw _ w_38))) (hw _ w_38) (hw _ w_37) (by decide) (TS.lenB 1 D0 hw X_x (CS.ext OLD.2) hzc (by decide) (by decide)) X_x.exa rfl [] rfl (lenOf pd_16 rfl) rfl (Nat.le_of_eq rfl) (by decide) (by decide) d_prog_21m10_8 rfl ?_
  intro v329 T329 q329 D329
  subst q329
  show Go p e below _ (T329.setTop (mkF m 11 #[.val (.ref x), .val (.long (-3750763034362895579 : Int64)), .second, .val (.int (0 : Int32))] [(.int (0 : Int32)), (.int (0 : Int32))]))
  refine g_icmpY D329 33 d_prog_21m10_11 (by decide) (by decide) (by decide) ?_
  refine g_lloadN D329 34 d_prog_21m10_33 rfl rfl ?_
  refine g_lloadN D329 35 d_prog_21m10_34 rfl rfl ?_
  refine g_bipush D329 37 (33 : Int32) d_prog_21m10_35 rfl rfl ?_
  refine g_lushr D329 38 d_prog_21m10_37 rfl ?_
  refine g_lxor D329 39 d_prog_21m10_38 rfl ?_
  refine g_ldc2J D329 42 (hw _ w_46) d_prog_21m10_39 rfl ?_
  refine g_lmul D329 43 d_prog_21m10_42 rfl ?_
  refine g_lstoreN D329 44 #[.val (.ref x), .val (.long (((-3750763034362895579 : Int64) ^^^ (XT.ushrL (-3750763034362895579 : Int64) (33 : Int32))) * (-49064778989728563 : Int64))), .second, .val (.int (0 : Int32))] d_prog_21m10_43 rfl rfl ?_
  refine g_lloadN D329 45 d_prog_21m10_44 rfl rfl ?_
  refine g_lloadN D329 46 d_prog_21m10_45 rfl rfl ?_
  refine g_bipush D329 48 (33 : Int32) d_prog_21m10_46 rfl rfl ?_
  refine g_lushr D329 49 d_prog_21m10_48 rfl ?_
  refine g_lxor D329 50 d_prog_21m10_49 rfl ?_
  refine g_ldc2J D329 53 (hw _ w_47) d_prog_21m10_50 rfl ?_
  refine g_lmul D329 54 d_prog_21m10_53 rfl ?_
  refine g_lstoreN D329 55 #[.val (.ref x), .val (.long (((((-3750763034362895579 : Int64) ^^^ (XT.ushrL (-3750763034362895579 : Int64) (33 : Int32))) * (-49064778989728563 : Int64)) ^^^ (XT.ushrL (((-3750763034362895579 : Int64) ^^^ (XT.ushrL (-3750763034362895579 : Int64) (33 : Int32))) * (-49064778989728563 : Int64)) (33 : Int32))) * (-4265267296055464877 : Int64))), .second, .val (.int (0 : Int32))] d_prog_21m10_54 rfl rfl ?_
  refine g_lloadN D329 56 d_prog_21m10_55 rfl rfl ?_
  refine g_lloadN D329 57 d_prog_21m10_56 rfl rfl ?_
  refine g_bipush D329 59 (33 : Int32) d_prog_21m10_57 rfl rfl ?_
  refine g_lushr D329 60 d_prog_21m10_59 rfl ?_
  refine g_lxor D329 61 d_prog_21m10_60 rfl ?_
  refine g_l2i D329 62 d_prog_21m10_61 rfl ?_
  refine g_istoreN D329 63 #[.val (.ref x), .val (.long (((((-3750763034362895579 : Int64) ^^^ (XT.ushrL (-3750763034362895579 : Int64) (33 : Int32))) * (-49064778989728563 : Int64)) ^^^ (XT.ushrL (((-3750763034362895579 : Int64) ^^^ (XT.ushrL (-3750763034362895579 : Int64) (33 : Int32))) * (-49064778989728563 : Int64)) (33 : Int32))) * (-4265267296055464877 : Int64))), .second, .val (.int (((((((-3750763034362895579 : Int64) ^^^ (XT.ushrL (-3750763034362895579 : Int64) (33 : Int32))) * (-49064778989728563 : Int64)) ^^^ (XT.ushrL (((-3750763034362895579 : Int64) ^^^ (XT.ushrL (-3750763034362895579 : Int64) (33 : Int32))) * (-49064778989728563 : Int64)) (33 : Int32))) * (-4265267296055464877 : Int64)) ^^^ (XT.ushrL (((((-3750763034362895579 : Int64) ^^^ (XT.ushrL (-3750763034362895579 : Int64) (33 : Int32))) * (-49064778989728563 : Int64)) ^^^ (XT.ushrL (((-3750763034362895579 : Int64) ^^^ (XT.ushrL (-3750763034362895579 : Int64) (33 : Int32))) * (-49064778989728563 : Int64)) (33 : Int32))) * (-4265267296055464877 : Int64)) (33 : Int32))).toInt32))] d_prog_21m10_62 rfl rfl ?_
  refine g_iloadN D329 64 d_prog_21m10_63 rfl rfl ?_
  show Go p e below _ (T329.setTop (mkF m 64 #[.val (.ref x), .val (.long ((own_m1 ((own_m1 (-3750763034362895579 : Int64)) * (-49064778989728563 : Int64))) * (-4265267296055464877 : Int64))), .second, .val (.int ((own_mx (-3750763034362895579 : Int64)).toInt32))] [(.int (((((((-3750763034362895579 : Int64) ^^^ (XT.ushrL (-3750763034362895579 : Int64) (33 : Int32))) * (-49064778989728563 : Int64)) ^^^ (XT.ushrL (((-3750763034362895579 : Int64) ^^^ (XT.ushrL (-3750763034362895579 : Int64) (33 : Int32))) * (-49064778989728563 : Int64)) (33 : Int32))) * (-4265267296055464877 : Int64)) ^^^ (XT.ushrL (((((-3750763034362895579 : Int64) ^^^ (XT.ushrL (-3750763034362895579 : Int64) (33 : Int32))) * (-49064778989728563 : Int64)) ^^^ (XT.ushrL (((-3750763034362895579 : Int64) ^^^ (XT.ushrL (-3750763034362895579 : Int64) (33 : Int32))) * (-49064778989728563 : Int64)) (33 : Int32))) * (-4265267296055464877 : Int64)) (33 : Int32))).toInt32))]))
  by_cases z0 : (((((((-3750763034362895579 : Int64) ^^^ (XT.ushrL (-3750763034362895579 : Int64) (33 : Int32))) * (-49064778989728563 : Int64)) ^^^ (XT.ushrL (((-3750763034362895579 : Int64) ^^^ (XT.ushrL (-3750763034362895579 : Int64) (33 : Int32))) * (-49064778989728563 : Int64)) (33 : Int32))) * (-4265267296055464877 : Int64)) ^^^ (XT.ushrL (((((-3750763034362895579 : Int64) ^^^ (XT.ushrL (-3750763034362895579 : Int64) (33 : Int32))) * (-49064778989728563 : Int64)) ^^^ (XT.ushrL (((-3750763034362895579 : Int64) ^^^ (XT.ushrL (-3750763034362895579 : Int64) (33 : Int32))) * (-49064778989728563 : Int64)) (33 : Int32))) * (-4265267296055464877 : Int64)) (33 : Int32))).toInt32) = (0 : Int32)
  · refine g_ifN D329 67 d_prog_21m10_64 (teq z0).2 rfl ?_
    refine g_iconst D329 68 (1 : Int32) d_prog_21m10_67 rfl rfl ?_
    refine g_goto D329 72 d_prog_21m10_68 (by decide) (by decide) ?_
    exact r_I D329 hret hlk d_prog_21m10_72 ⟨congrArg (fun z => some (Value.int z)) (if_pos z0).symm, rfl, rfl⟩ (by decide) (by decide)
  · refine g_ifY D329 71 d_prog_21m10_64 (feq z0).2 (by decide) (by decide) ?_
    refine g_iloadN D329 72 d_prog_21m10_71 rfl rfl ?_
    exact r_I D329 hret hlk d_prog_21m10_72 ⟨congrArg (fun z => some (Value.int z)) (if_neg z0).symm, rfl, rfl⟩ (by decide) (by decide)
set_option maxRecDepth 65536 in
set_option maxHeartbeats 40000000 in
theorem cHa_1 (l : Launch) (Z : State) (a0 : Array Value) (hw : ∀ d ∈ tables_1, d.before a0 Z = true) (ws : List Jvm.Cond) (x : Addr) (zc : Int32) (fm : Value) (c0 : Int32) (h0 : Heap) (n0 : Nat) (Z0 : n0 ≤ h0.size) (OLD : Old Z n0 h0) (SA : Sta Z Z.heap "java/lang/StringUTF16" "$assertionsDisabled" "Z" (.int (1 : Int32))) (SH : Sta Z Z.heap "java/lang/StringUTF16" "HI_BYTE_SHIFT" "I" (.int (0 : Int32))) (SL : Sta Z Z.heap "java/lang/StringUTF16" "LO_BYTE_SHIFT" "I" (.int (8 : Int32))) (CS : Sta Z Z.heap "java/lang/String" "COMPACT_STRINGS" "Z" (.int zc)) (hzc : ¬ zc = 0) (SFm : Sta Z Z.heap "jdk/internal/util/Preconditions" "SIOOBE_FORMATTER" "Ljava/util/function/BiFunction;" fm) (rfm : fm.isRef = true) (X_x : TS Z h0 x [c0]) :
    Con l (⟨"com/example/ocotillo/ocotillo/store/MessageIndex", "hash", "(Ljava/lang/String;)I"⟩ : MethodName) prog_21_method_10_code 4 (some .int) ws ({ frames := 5, cells := 0, slots := 0, locals := 68 } : Room) Z #[(.ref x)] h0 (fun v h L => v = some (.int (own_ex (own_st (-3750763034362895579 : Int64) c0))) ∧ L = [] ∧ h = h0) 0 0 := by
  refine enter (plainFor_of_name pn_5) ?_
  intro p e s m below meth c s₁ hnm hret hlk D0
  rw [ef_cHa_1 m x]
  refine g_ldc2J D0 3 (hw _ w_34) d_prog_21m10_0 rfl ?_
  refine g_lstoreN D0 4 #[.val (.ref x), .val (.long (-3750763034362895579 : Int64)), .second, .unset] d_prog_21m10_3 rfl rfl ?_
  refine g_iconst D0 5 (0 : Int32) d_prog_21m10_4 rfl rfl ?_
  refine g_istoreN D0 6 #[.val (.ref x), .val (.long (-3750763034362895579 : Int64)), .second, .val (.int (0 : Int32))] d_prog_21m10_5 rfl rfl ?_
  refine g_iloadN D0 7 d_prog_21m10_6 rfl rfl ?_
  refine g_aloadN D0 8 d_prog_21m10_7 rfl rfl rfl ?_
  refine g_callVp D0 11 (hw _ w_35) (hw _ w_36) (notFace_of_selects (args := #[]) (mvT D0.wm (hw _ w_38))) (hw _ w_38) (hw _ w_37) (by decide) (TS.lenB 1 D0 hw X_x (CS.ext OLD.2) hzc (by decide) (by decide)) X_x.exa rfl [] rfl (lenOf pd_16 rfl) rfl (Nat.le_of_eq rfl) (by decide) (by decide) d_prog_21m10_8 rfl ?_
  intro v330 T330 q330 D330
  subst q330
  show Go p e below _ (T330.setTop (mkF m 11 #[.val (.ref x), .val (.long (-3750763034362895579 : Int64)), .second, .val (.int (0 : Int32))] [(.int (1 : Int32)), (.int (0 : Int32))]))
  refine g_icmpN D330 14 d_prog_21m10_11 (by decide) rfl ?_
  refine g_lloadN D330 15 d_prog_21m10_14 rfl rfl ?_
  refine g_aloadN D330 16 d_prog_21m10_15 rfl rfl rfl ?_
  refine g_iloadN D330 17 d_prog_21m10_16 rfl rfl ?_
  refine g_callVp D330 20 (hw _ w_62) (hw _ w_63) (notFace_of_selects (args := #[]) (mvT D330.wm (hw _ w_65))) (hw _ w_65) (hw _ w_64) (by decide) ((cSCh_1_0 l Z a0 hw [] x zc fm c0 h0 n0 Z0 OLD SA SH SL CS hzc SFm rfm X_x).back D330 2 (hw _ w_66) (hw _ w_3) (by decide) (by decide)) X_x.exa rfl [(.int (0 : Int32))] rfl (lenOf pd_17 rfl) rfl (Nat.le_of_eq rfl) (by decide) (by decide) d_prog_21m10_17 rfl ?_
  intro v331 T331 q331 D331
  subst q331
  show Go p e below _ (T331.setTop (mkF m 20 #[.val (.ref x), .val (.long (-3750763034362895579 : Int64)), .second, .val (.int (0 : Int32))] [(.int c0), (.long (-3750763034362895579 : Int64))]))
  refine g_i2l D331 21 d_prog_21m10_20 rfl ?_
  refine g_lxor D331 22 d_prog_21m10_21 rfl ?_
  refine g_ldc2J D331 25 (hw _ w_84) d_prog_21m10_22 rfl ?_
  refine g_lmul D331 26 d_prog_21m10_25 rfl ?_
  refine g_lstoreN D331 27 #[.val (.ref x), .val (.long (((-3750763034362895579 : Int64) ^^^ (c0.toInt64)) * (1099511628211 : Int64))), .second, .val (.int (0 : Int32))] d_prog_21m10_26 rfl rfl ?_
  show Go p e below _ (T331.setTop (mkF m 27 #[.val (.ref x), .val (.long (own_st (-3750763034362895579 : Int64) c0)), .second, .val (.int (0 : Int32))] []))
  refine g_iinc D331 30 (1 : Int32) #[.val (.ref x), .val (.long (own_st (-3750763034362895579 : Int64) c0)), .second, .val (.int ((0 : Int32) + (1 : Int32)))] d_prog_21m10_27 rfl rfl rfl rfl ?_
  rw [show ((0 : Int32) + (1 : Int32)) = (1 : Int32) from by decide]
  refine g_goto D331 6 d_prog_21m10_30 (by decide) (by decide) ?_
  refine g_iloadN D331 7 d_prog_21m10_6 rfl rfl ?_
  refine g_aloadN D331 8 d_prog_21m10_7 rfl rfl rfl ?_
  refine g_callVp D331 11 (hw _ w_35) (hw _ w_36) (notFace_of_selects (args := #[]) (mvT D331.wm (hw _ w_38))) (hw _ w_38) (hw _ w_37) (by decide) (TS.lenB 1 D331 hw X_x (CS.ext OLD.2) hzc (by decide) (by decide)) X_x.exa rfl [] rfl (lenOf pd_16 rfl) rfl (Nat.le_of_eq rfl) (by decide) (by decide) d_prog_21m10_8 rfl ?_
  intro v332 T332 q332 D332
  subst q332
  show Go p e below _ (T332.setTop (mkF m 11 #[.val (.ref x), .val (.long (own_st (-3750763034362895579 : Int64) c0)), .second, .val (.int (1 : Int32))] [(.int (1 : Int32)), (.int (1 : Int32))]))
  refine g_icmpY D332 33 d_prog_21m10_11 (by decide) (by decide) (by decide) ?_
  refine g_lloadN D332 34 d_prog_21m10_33 rfl rfl ?_
  refine g_lloadN D332 35 d_prog_21m10_34 rfl rfl ?_
  refine g_bipush D332 37 (33 : Int32) d_prog_21m10_35 rfl rfl ?_
  refine g_lushr D332 38 d_prog_21m10_37 rfl ?_
  refine g_lxor D332 39 d_prog_21m10_38 rfl ?_
  refine g_ldc2J D332 42 (hw _ w_46) d_prog_21m10_39 rfl ?_
  refine g_lmul D332 43 d_prog_21m10_42 rfl ?_
  refine g_lstoreN D332 44 #[.val (.ref x), .val (.long (((own_st (-3750763034362895579 : Int64) c0) ^^^ (XT.ushrL (own_st (-3750763034362895579 : Int64) c0) (33 : Int32))) * (-49064778989728563 : Int64))), .second, .val (.int (1 : Int32))] d_prog_21m10_43 rfl rfl ?_
  refine g_lloadN D332 45 d_prog_21m10_44 rfl rfl ?_
  refine g_lloadN D332 46 d_prog_21m10_45 rfl rfl ?_
  refine g_bipush D332 48 (33 : Int32) d_prog_21m10_46 rfl rfl ?_
  refine g_lushr D332 49 d_prog_21m10_48 rfl ?_
  refine g_lxor D332 50 d_prog_21m10_49 rfl ?_
  refine g_ldc2J D332 53 (hw _ w_47) d_prog_21m10_50 rfl ?_
  refine g_lmul D332 54 d_prog_21m10_53 rfl ?_
  refine g_lstoreN D332 55 #[.val (.ref x), .val (.long (((((own_st (-3750763034362895579 : Int64) c0) ^^^ (XT.ushrL (own_st (-3750763034362895579 : Int64) c0) (33 : Int32))) * (-49064778989728563 : Int64)) ^^^ (XT.ushrL (((own_st (-3750763034362895579 : Int64) c0) ^^^ (XT.ushrL (own_st (-3750763034362895579 : Int64) c0) (33 : Int32))) * (-49064778989728563 : Int64)) (33 : Int32))) * (-4265267296055464877 : Int64))), .second, .val (.int (1 : Int32))] d_prog_21m10_54 rfl rfl ?_
  refine g_lloadN D332 56 d_prog_21m10_55 rfl rfl ?_
  refine g_lloadN D332 57 d_prog_21m10_56 rfl rfl ?_
  refine g_bipush D332 59 (33 : Int32) d_prog_21m10_57 rfl rfl ?_
  refine g_lushr D332 60 d_prog_21m10_59 rfl ?_
  refine g_lxor D332 61 d_prog_21m10_60 rfl ?_
  refine g_l2i D332 62 d_prog_21m10_61 rfl ?_
  refine g_istoreN D332 63 #[.val (.ref x), .val (.long (((((own_st (-3750763034362895579 : Int64) c0) ^^^ (XT.ushrL (own_st (-3750763034362895579 : Int64) c0) (33 : Int32))) * (-49064778989728563 : Int64)) ^^^ (XT.ushrL (((own_st (-3750763034362895579 : Int64) c0) ^^^ (XT.ushrL (own_st (-3750763034362895579 : Int64) c0) (33 : Int32))) * (-49064778989728563 : Int64)) (33 : Int32))) * (-4265267296055464877 : Int64))), .second, .val (.int (((((((own_st (-3750763034362895579 : Int64) c0) ^^^ (XT.ushrL (own_st (-3750763034362895579 : Int64) c0) (33 : Int32))) * (-49064778989728563 : Int64)) ^^^ (XT.ushrL (((own_st (-3750763034362895579 : Int64) c0) ^^^ (XT.ushrL (own_st (-3750763034362895579 : Int64) c0) (33 : Int32))) * (-49064778989728563 : Int64)) (33 : Int32))) * (-4265267296055464877 : Int64)) ^^^ (XT.ushrL (((((own_st (-3750763034362895579 : Int64) c0) ^^^ (XT.ushrL (own_st (-3750763034362895579 : Int64) c0) (33 : Int32))) * (-49064778989728563 : Int64)) ^^^ (XT.ushrL (((own_st (-3750763034362895579 : Int64) c0) ^^^ (XT.ushrL (own_st (-3750763034362895579 : Int64) c0) (33 : Int32))) * (-49064778989728563 : Int64)) (33 : Int32))) * (-4265267296055464877 : Int64)) (33 : Int32))).toInt32))] d_prog_21m10_62 rfl rfl ?_
  refine g_iloadN D332 64 d_prog_21m10_63 rfl rfl ?_
  show Go p e below _ (T332.setTop (mkF m 64 #[.val (.ref x), .val (.long ((own_m1 ((own_m1 (own_st (-3750763034362895579 : Int64) c0)) * (-49064778989728563 : Int64))) * (-4265267296055464877 : Int64))), .second, .val (.int ((own_mx (own_st (-3750763034362895579 : Int64) c0)).toInt32))] [(.int (((((((own_st (-3750763034362895579 : Int64) c0) ^^^ (XT.ushrL (own_st (-3750763034362895579 : Int64) c0) (33 : Int32))) * (-49064778989728563 : Int64)) ^^^ (XT.ushrL (((own_st (-3750763034362895579 : Int64) c0) ^^^ (XT.ushrL (own_st (-3750763034362895579 : Int64) c0) (33 : Int32))) * (-49064778989728563 : Int64)) (33 : Int32))) * (-4265267296055464877 : Int64)) ^^^ (XT.ushrL (((((own_st (-3750763034362895579 : Int64) c0) ^^^ (XT.ushrL (own_st (-3750763034362895579 : Int64) c0) (33 : Int32))) * (-49064778989728563 : Int64)) ^^^ (XT.ushrL (((own_st (-3750763034362895579 : Int64) c0) ^^^ (XT.ushrL (own_st (-3750763034362895579 : Int64) c0) (33 : Int32))) * (-49064778989728563 : Int64)) (33 : Int32))) * (-4265267296055464877 : Int64)) (33 : Int32))).toInt32))]))
  by_cases z0 : (((((((own_st (-3750763034362895579 : Int64) c0) ^^^ (XT.ushrL (own_st (-3750763034362895579 : Int64) c0) (33 : Int32))) * (-49064778989728563 : Int64)) ^^^ (XT.ushrL (((own_st (-3750763034362895579 : Int64) c0) ^^^ (XT.ushrL (own_st (-3750763034362895579 : Int64) c0) (33 : Int32))) * (-49064778989728563 : Int64)) (33 : Int32))) * (-4265267296055464877 : Int64)) ^^^ (XT.ushrL (((((own_st (-3750763034362895579 : Int64) c0) ^^^ (XT.ushrL (own_st (-3750763034362895579 : Int64) c0) (33 : Int32))) * (-49064778989728563 : Int64)) ^^^ (XT.ushrL (((own_st (-3750763034362895579 : Int64) c0) ^^^ (XT.ushrL (own_st (-3750763034362895579 : Int64) c0) (33 : Int32))) * (-49064778989728563 : Int64)) (33 : Int32))) * (-4265267296055464877 : Int64)) (33 : Int32))).toInt32) = (0 : Int32)
  · refine g_ifN D332 67 d_prog_21m10_64 (teq z0).2 rfl ?_
    refine g_iconst D332 68 (1 : Int32) d_prog_21m10_67 rfl rfl ?_
    refine g_goto D332 72 d_prog_21m10_68 (by decide) (by decide) ?_
    exact r_I D332 hret hlk d_prog_21m10_72 ⟨congrArg (fun z => some (Value.int z)) (if_pos z0).symm, rfl, rfl⟩ (by decide) (by decide)
  · refine g_ifY D332 71 d_prog_21m10_64 (feq z0).2 (by decide) (by decide) ?_
    refine g_iloadN D332 72 d_prog_21m10_71 rfl rfl ?_
    exact r_I D332 hret hlk d_prog_21m10_72 ⟨congrArg (fun z => some (Value.int z)) (if_neg z0).symm, rfl, rfl⟩ (by decide) (by decide)
set_option maxRecDepth 65536 in
set_option maxHeartbeats 40000000 in
theorem cHa_2 (l : Launch) (Z : State) (a0 : Array Value) (hw : ∀ d ∈ tables_1, d.before a0 Z = true) (ws : List Jvm.Cond) (x : Addr) (zc : Int32) (fm : Value) (c0 c1 : Int32) (h0 : Heap) (n0 : Nat) (Z0 : n0 ≤ h0.size) (OLD : Old Z n0 h0) (SA : Sta Z Z.heap "java/lang/StringUTF16" "$assertionsDisabled" "Z" (.int (1 : Int32))) (SH : Sta Z Z.heap "java/lang/StringUTF16" "HI_BYTE_SHIFT" "I" (.int (0 : Int32))) (SL : Sta Z Z.heap "java/lang/StringUTF16" "LO_BYTE_SHIFT" "I" (.int (8 : Int32))) (CS : Sta Z Z.heap "java/lang/String" "COMPACT_STRINGS" "Z" (.int zc)) (hzc : ¬ zc = 0) (SFm : Sta Z Z.heap "jdk/internal/util/Preconditions" "SIOOBE_FORMATTER" "Ljava/util/function/BiFunction;" fm) (rfm : fm.isRef = true) (X_x : TS Z h0 x [c0, c1]) :
    Con l (⟨"com/example/ocotillo/ocotillo/store/MessageIndex", "hash", "(Ljava/lang/String;)I"⟩ : MethodName) prog_21_method_10_code 4 (some .int) ws ({ frames := 5, cells := 0, slots := 0, locals := 68 } : Room) Z #[(.ref x)] h0 (fun v h L => v = some (.int (own_ex (own_st (own_st (-3750763034362895579 : Int64) c0) c1))) ∧ L = [] ∧ h = h0) 0 0 := by
  refine enter (plainFor_of_name pn_5) ?_
  intro p e s m below meth c s₁ hnm hret hlk D0
  rw [ef_cHa_2 m x]
  refine g_ldc2J D0 3 (hw _ w_34) d_prog_21m10_0 rfl ?_
  refine g_lstoreN D0 4 #[.val (.ref x), .val (.long (-3750763034362895579 : Int64)), .second, .unset] d_prog_21m10_3 rfl rfl ?_
  refine g_iconst D0 5 (0 : Int32) d_prog_21m10_4 rfl rfl ?_
  refine g_istoreN D0 6 #[.val (.ref x), .val (.long (-3750763034362895579 : Int64)), .second, .val (.int (0 : Int32))] d_prog_21m10_5 rfl rfl ?_
  refine g_iloadN D0 7 d_prog_21m10_6 rfl rfl ?_
  refine g_aloadN D0 8 d_prog_21m10_7 rfl rfl rfl ?_
  refine g_callVp D0 11 (hw _ w_35) (hw _ w_36) (notFace_of_selects (args := #[]) (mvT D0.wm (hw _ w_38))) (hw _ w_38) (hw _ w_37) (by decide) (TS.lenB 1 D0 hw X_x (CS.ext OLD.2) hzc (by decide) (by decide)) X_x.exa rfl [] rfl (lenOf pd_16 rfl) rfl (Nat.le_of_eq rfl) (by decide) (by decide) d_prog_21m10_8 rfl ?_
  intro v333 T333 q333 D333
  subst q333
  show Go p e below _ (T333.setTop (mkF m 11 #[.val (.ref x), .val (.long (-3750763034362895579 : Int64)), .second, .val (.int (0 : Int32))] [(.int (2 : Int32)), (.int (0 : Int32))]))
  refine g_icmpN D333 14 d_prog_21m10_11 (by decide) rfl ?_
  refine g_lloadN D333 15 d_prog_21m10_14 rfl rfl ?_
  refine g_aloadN D333 16 d_prog_21m10_15 rfl rfl rfl ?_
  refine g_iloadN D333 17 d_prog_21m10_16 rfl rfl ?_
  refine g_callVp D333 20 (hw _ w_62) (hw _ w_63) (notFace_of_selects (args := #[]) (mvT D333.wm (hw _ w_65))) (hw _ w_65) (hw _ w_64) (by decide) ((cSCh_2_0 l Z a0 hw [] x zc fm c0 c1 h0 n0 Z0 OLD SA SH SL CS hzc SFm rfm X_x).back D333 2 (hw _ w_66) (hw _ w_3) (by decide) (by decide)) X_x.exa rfl [(.int (0 : Int32))] rfl (lenOf pd_17 rfl) rfl (Nat.le_of_eq rfl) (by decide) (by decide) d_prog_21m10_17 rfl ?_
  intro v334 T334 q334 D334
  subst q334
  show Go p e below _ (T334.setTop (mkF m 20 #[.val (.ref x), .val (.long (-3750763034362895579 : Int64)), .second, .val (.int (0 : Int32))] [(.int c0), (.long (-3750763034362895579 : Int64))]))
  refine g_i2l D334 21 d_prog_21m10_20 rfl ?_
  refine g_lxor D334 22 d_prog_21m10_21 rfl ?_
  refine g_ldc2J D334 25 (hw _ w_84) d_prog_21m10_22 rfl ?_
  refine g_lmul D334 26 d_prog_21m10_25 rfl ?_
  refine g_lstoreN D334 27 #[.val (.ref x), .val (.long (((-3750763034362895579 : Int64) ^^^ (c0.toInt64)) * (1099511628211 : Int64))), .second, .val (.int (0 : Int32))] d_prog_21m10_26 rfl rfl ?_
  show Go p e below _ (T334.setTop (mkF m 27 #[.val (.ref x), .val (.long (own_st (-3750763034362895579 : Int64) c0)), .second, .val (.int (0 : Int32))] []))
  refine g_iinc D334 30 (1 : Int32) #[.val (.ref x), .val (.long (own_st (-3750763034362895579 : Int64) c0)), .second, .val (.int ((0 : Int32) + (1 : Int32)))] d_prog_21m10_27 rfl rfl rfl rfl ?_
  rw [show ((0 : Int32) + (1 : Int32)) = (1 : Int32) from by decide]
  refine g_goto D334 6 d_prog_21m10_30 (by decide) (by decide) ?_
  refine g_iloadN D334 7 d_prog_21m10_6 rfl rfl ?_
  refine g_aloadN D334 8 d_prog_21m10_7 rfl rfl rfl ?_
  refine g_callVp D334 11 (hw _ w_35) (hw _ w_36) (notFace_of_selects (args := #[]) (mvT D334.wm (hw _ w_38))) (hw _ w_38) (hw _ w_37) (by decide) (TS.lenB 1 D334 hw X_x (CS.ext OLD.2) hzc (by decide) (by decide)) X_x.exa rfl [] rfl (lenOf pd_16 rfl) rfl (Nat.le_of_eq rfl) (by decide) (by decide) d_prog_21m10_8 rfl ?_
  intro v335 T335 q335 D335
  subst q335
  show Go p e below _ (T335.setTop (mkF m 11 #[.val (.ref x), .val (.long (own_st (-3750763034362895579 : Int64) c0)), .second, .val (.int (1 : Int32))] [(.int (2 : Int32)), (.int (1 : Int32))]))
  refine g_icmpN D335 14 d_prog_21m10_11 (by decide) rfl ?_
  refine g_lloadN D335 15 d_prog_21m10_14 rfl rfl ?_
  refine g_aloadN D335 16 d_prog_21m10_15 rfl rfl rfl ?_
  refine g_iloadN D335 17 d_prog_21m10_16 rfl rfl ?_
  refine g_callVp D335 20 (hw _ w_62) (hw _ w_63) (notFace_of_selects (args := #[]) (mvT D335.wm (hw _ w_65))) (hw _ w_65) (hw _ w_64) (by decide) ((cSCh_2_1 l Z a0 hw [] x zc fm c0 c1 h0 n0 Z0 OLD SA SH SL CS hzc SFm rfm X_x).back D335 2 (hw _ w_66) (hw _ w_3) (by decide) (by decide)) X_x.exa rfl [(.int (1 : Int32))] rfl (lenOf pd_17 rfl) rfl (Nat.le_of_eq rfl) (by decide) (by decide) d_prog_21m10_17 rfl ?_
  intro v336 T336 q336 D336
  subst q336
  show Go p e below _ (T336.setTop (mkF m 20 #[.val (.ref x), .val (.long (own_st (-3750763034362895579 : Int64) c0)), .second, .val (.int (1 : Int32))] [(.int c1), (.long (own_st (-3750763034362895579 : Int64) c0))]))
  refine g_i2l D336 21 d_prog_21m10_20 rfl ?_
  refine g_lxor D336 22 d_prog_21m10_21 rfl ?_
  refine g_ldc2J D336 25 (hw _ w_84) d_prog_21m10_22 rfl ?_
  refine g_lmul D336 26 d_prog_21m10_25 rfl ?_
  refine g_lstoreN D336 27 #[.val (.ref x), .val (.long (((own_st (-3750763034362895579 : Int64) c0) ^^^ (c1.toInt64)) * (1099511628211 : Int64))), .second, .val (.int (1 : Int32))] d_prog_21m10_26 rfl rfl ?_
  show Go p e below _ (T336.setTop (mkF m 27 #[.val (.ref x), .val (.long (own_st (own_st (-3750763034362895579 : Int64) c0) c1)), .second, .val (.int (1 : Int32))] []))
  refine g_iinc D336 30 (1 : Int32) #[.val (.ref x), .val (.long (own_st (own_st (-3750763034362895579 : Int64) c0) c1)), .second, .val (.int ((1 : Int32) + (1 : Int32)))] d_prog_21m10_27 rfl rfl rfl rfl ?_
  rw [show ((1 : Int32) + (1 : Int32)) = (2 : Int32) from by decide]
  refine g_goto D336 6 d_prog_21m10_30 (by decide) (by decide) ?_
  refine g_iloadN D336 7 d_prog_21m10_6 rfl rfl ?_
  refine g_aloadN D336 8 d_prog_21m10_7 rfl rfl rfl ?_
  refine g_callVp D336 11 (hw _ w_35) (hw _ w_36) (notFace_of_selects (args := #[]) (mvT D336.wm (hw _ w_38))) (hw _ w_38) (hw _ w_37) (by decide) (TS.lenB 1 D336 hw X_x (CS.ext OLD.2) hzc (by decide) (by decide)) X_x.exa rfl [] rfl (lenOf pd_16 rfl) rfl (Nat.le_of_eq rfl) (by decide) (by decide) d_prog_21m10_8 rfl ?_
  intro v337 T337 q337 D337
  subst q337
  show Go p e below _ (T337.setTop (mkF m 11 #[.val (.ref x), .val (.long (own_st (own_st (-3750763034362895579 : Int64) c0) c1)), .second, .val (.int (2 : Int32))] [(.int (2 : Int32)), (.int (2 : Int32))]))
  refine g_icmpY D337 33 d_prog_21m10_11 (by decide) (by decide) (by decide) ?_
  refine g_lloadN D337 34 d_prog_21m10_33 rfl rfl ?_
  refine g_lloadN D337 35 d_prog_21m10_34 rfl rfl ?_
  refine g_bipush D337 37 (33 : Int32) d_prog_21m10_35 rfl rfl ?_
  refine g_lushr D337 38 d_prog_21m10_37 rfl ?_
  refine g_lxor D337 39 d_prog_21m10_38 rfl ?_
  refine g_ldc2J D337 42 (hw _ w_46) d_prog_21m10_39 rfl ?_
  refine g_lmul D337 43 d_prog_21m10_42 rfl ?_
  refine g_lstoreN D337 44 #[.val (.ref x), .val (.long (((own_st (own_st (-3750763034362895579 : Int64) c0) c1) ^^^ (XT.ushrL (own_st (own_st (-3750763034362895579 : Int64) c0) c1) (33 : Int32))) * (-49064778989728563 : Int64))), .second, .val (.int (2 : Int32))] d_prog_21m10_43 rfl rfl ?_
  refine g_lloadN D337 45 d_prog_21m10_44 rfl rfl ?_
  refine g_lloadN D337 46 d_prog_21m10_45 rfl rfl ?_
  refine g_bipush D337 48 (33 : Int32) d_prog_21m10_46 rfl rfl ?_
  refine g_lushr D337 49 d_prog_21m10_48 rfl ?_
  refine g_lxor D337 50 d_prog_21m10_49 rfl ?_
  refine g_ldc2J D337 53 (hw _ w_47) d_prog_21m10_50 rfl ?_
  refine g_lmul D337 54 d_prog_21m10_53 rfl ?_
  refine g_lstoreN D337 55 #[.val (.ref x), .val (.long (((((own_st (own_st (-3750763034362895579 : Int64) c0) c1) ^^^ (XT.ushrL (own_st (own_st (-3750763034362895579 : Int64) c0) c1) (33 : Int32))) * (-49064778989728563 : Int64)) ^^^ (XT.ushrL (((own_st (own_st (-3750763034362895579 : Int64) c0) c1) ^^^ (XT.ushrL (own_st (own_st (-3750763034362895579 : Int64) c0) c1) (33 : Int32))) * (-49064778989728563 : Int64)) (33 : Int32))) * (-4265267296055464877 : Int64))), .second, .val (.int (2 : Int32))] d_prog_21m10_54 rfl rfl ?_
  refine g_lloadN D337 56 d_prog_21m10_55 rfl rfl ?_
  refine g_lloadN D337 57 d_prog_21m10_56 rfl rfl ?_
  refine g_bipush D337 59 (33 : Int32) d_prog_21m10_57 rfl rfl ?_
  refine g_lushr D337 60 d_prog_21m10_59 rfl ?_
  refine g_lxor D337 61 d_prog_21m10_60 rfl ?_
  refine g_l2i D337 62 d_prog_21m10_61 rfl ?_
  refine g_istoreN D337 63 #[.val (.ref x), .val (.long (((((own_st (own_st (-3750763034362895579 : Int64) c0) c1) ^^^ (XT.ushrL (own_st (own_st (-3750763034362895579 : Int64) c0) c1) (33 : Int32))) * (-49064778989728563 : Int64)) ^^^ (XT.ushrL (((own_st (own_st (-3750763034362895579 : Int64) c0) c1) ^^^ (XT.ushrL (own_st (own_st (-3750763034362895579 : Int64) c0) c1) (33 : Int32))) * (-49064778989728563 : Int64)) (33 : Int32))) * (-4265267296055464877 : Int64))), .second, .val (.int (((((((own_st (own_st (-3750763034362895579 : Int64) c0) c1) ^^^ (XT.ushrL (own_st (own_st (-3750763034362895579 : Int64) c0) c1) (33 : Int32))) * (-49064778989728563 : Int64)) ^^^ (XT.ushrL (((own_st (own_st (-3750763034362895579 : Int64) c0) c1) ^^^ (XT.ushrL (own_st (own_st (-3750763034362895579 : Int64) c0) c1) (33 : Int32))) * (-49064778989728563 : Int64)) (33 : Int32))) * (-4265267296055464877 : Int64)) ^^^ (XT.ushrL (((((own_st (own_st (-3750763034362895579 : Int64) c0) c1) ^^^ (XT.ushrL (own_st (own_st (-3750763034362895579 : Int64) c0) c1) (33 : Int32))) * (-49064778989728563 : Int64)) ^^^ (XT.ushrL (((own_st (own_st (-3750763034362895579 : Int64) c0) c1) ^^^ (XT.ushrL (own_st (own_st (-3750763034362895579 : Int64) c0) c1) (33 : Int32))) * (-49064778989728563 : Int64)) (33 : Int32))) * (-4265267296055464877 : Int64)) (33 : Int32))).toInt32))] d_prog_21m10_62 rfl rfl ?_
  refine g_iloadN D337 64 d_prog_21m10_63 rfl rfl ?_
  show Go p e below _ (T337.setTop (mkF m 64 #[.val (.ref x), .val (.long ((own_m1 ((own_m1 (own_st (own_st (-3750763034362895579 : Int64) c0) c1)) * (-49064778989728563 : Int64))) * (-4265267296055464877 : Int64))), .second, .val (.int ((own_mx (own_st (own_st (-3750763034362895579 : Int64) c0) c1)).toInt32))] [(.int (((((((own_st (own_st (-3750763034362895579 : Int64) c0) c1) ^^^ (XT.ushrL (own_st (own_st (-3750763034362895579 : Int64) c0) c1) (33 : Int32))) * (-49064778989728563 : Int64)) ^^^ (XT.ushrL (((own_st (own_st (-3750763034362895579 : Int64) c0) c1) ^^^ (XT.ushrL (own_st (own_st (-3750763034362895579 : Int64) c0) c1) (33 : Int32))) * (-49064778989728563 : Int64)) (33 : Int32))) * (-4265267296055464877 : Int64)) ^^^ (XT.ushrL (((((own_st (own_st (-3750763034362895579 : Int64) c0) c1) ^^^ (XT.ushrL (own_st (own_st (-3750763034362895579 : Int64) c0) c1) (33 : Int32))) * (-49064778989728563 : Int64)) ^^^ (XT.ushrL (((own_st (own_st (-3750763034362895579 : Int64) c0) c1) ^^^ (XT.ushrL (own_st (own_st (-3750763034362895579 : Int64) c0) c1) (33 : Int32))) * (-49064778989728563 : Int64)) (33 : Int32))) * (-4265267296055464877 : Int64)) (33 : Int32))).toInt32))]))
  by_cases z0 : (((((((own_st (own_st (-3750763034362895579 : Int64) c0) c1) ^^^ (XT.ushrL (own_st (own_st (-3750763034362895579 : Int64) c0) c1) (33 : Int32))) * (-49064778989728563 : Int64)) ^^^ (XT.ushrL (((own_st (own_st (-3750763034362895579 : Int64) c0) c1) ^^^ (XT.ushrL (own_st (own_st (-3750763034362895579 : Int64) c0) c1) (33 : Int32))) * (-49064778989728563 : Int64)) (33 : Int32))) * (-4265267296055464877 : Int64)) ^^^ (XT.ushrL (((((own_st (own_st (-3750763034362895579 : Int64) c0) c1) ^^^ (XT.ushrL (own_st (own_st (-3750763034362895579 : Int64) c0) c1) (33 : Int32))) * (-49064778989728563 : Int64)) ^^^ (XT.ushrL (((own_st (own_st (-3750763034362895579 : Int64) c0) c1) ^^^ (XT.ushrL (own_st (own_st (-3750763034362895579 : Int64) c0) c1) (33 : Int32))) * (-49064778989728563 : Int64)) (33 : Int32))) * (-4265267296055464877 : Int64)) (33 : Int32))).toInt32) = (0 : Int32)
  · refine g_ifN D337 67 d_prog_21m10_64 (teq z0).2 rfl ?_
    refine g_iconst D337 68 (1 : Int32) d_prog_21m10_67 rfl rfl ?_
    refine g_goto D337 72 d_prog_21m10_68 (by decide) (by decide) ?_
    exact r_I D337 hret hlk d_prog_21m10_72 ⟨congrArg (fun z => some (Value.int z)) (if_pos z0).symm, rfl, rfl⟩ (by decide) (by decide)
  · refine g_ifY D337 71 d_prog_21m10_64 (feq z0).2 (by decide) (by decide) ?_
    refine g_iloadN D337 72 d_prog_21m10_71 rfl rfl ?_
    exact r_I D337 hret hlk d_prog_21m10_72 ⟨congrArg (fun z => some (Value.int z)) (if_neg z0).symm, rfl, rfl⟩ (by decide) (by decide)
set_option maxRecDepth 65536 in
set_option maxHeartbeats 40000000 in
theorem cHa_3 (l : Launch) (Z : State) (a0 : Array Value) (hw : ∀ d ∈ tables_1, d.before a0 Z = true) (ws : List Jvm.Cond) (x : Addr) (zc : Int32) (fm : Value) (c0 c1 c2 : Int32) (h0 : Heap) (n0 : Nat) (Z0 : n0 ≤ h0.size) (OLD : Old Z n0 h0) (SA : Sta Z Z.heap "java/lang/StringUTF16" "$assertionsDisabled" "Z" (.int (1 : Int32))) (SH : Sta Z Z.heap "java/lang/StringUTF16" "HI_BYTE_SHIFT" "I" (.int (0 : Int32))) (SL : Sta Z Z.heap "java/lang/StringUTF16" "LO_BYTE_SHIFT" "I" (.int (8 : Int32))) (CS : Sta Z Z.heap "java/lang/String" "COMPACT_STRINGS" "Z" (.int zc)) (hzc : ¬ zc = 0) (SFm : Sta Z Z.heap "jdk/internal/util/Preconditions" "SIOOBE_FORMATTER" "Ljava/util/function/BiFunction;" fm) (rfm : fm.isRef = true) (X_x : TS Z h0 x [c0, c1, c2]) :
    Con l (⟨"com/example/ocotillo/ocotillo/store/MessageIndex", "hash", "(Ljava/lang/String;)I"⟩ : MethodName) prog_21_method_10_code 4 (some .int) ws ({ frames := 5, cells := 0, slots := 0, locals := 68 } : Room) Z #[(.ref x)] h0 (fun v h L => v = some (.int (own_ex (own_st (own_st (own_st (-3750763034362895579 : Int64) c0) c1) c2))) ∧ L = [] ∧ h = h0) 0 0 := by
  refine enter (plainFor_of_name pn_5) ?_
  intro p e s m below meth c s₁ hnm hret hlk D0
  rw [ef_cHa_3 m x]
  refine g_ldc2J D0 3 (hw _ w_34) d_prog_21m10_0 rfl ?_
  refine g_lstoreN D0 4 #[.val (.ref x), .val (.long (-3750763034362895579 : Int64)), .second, .unset] d_prog_21m10_3 rfl rfl ?_
  refine g_iconst D0 5 (0 : Int32) d_prog_21m10_4 rfl rfl ?_
  refine g_istoreN D0 6 #[.val (.ref x), .val (.long (-3750763034362895579 : Int64)), .second, .val (.int (0 : Int32))] d_prog_21m10_5 rfl rfl ?_
  refine g_iloadN D0 7 d_prog_21m10_6 rfl rfl ?_
  refine g_aloadN D0 8 d_prog_21m10_7 rfl rfl rfl ?_
  refine g_callVp D0 11 (hw _ w_35) (hw _ w_36) (notFace_of_selects (args := #[]) (mvT D0.wm (hw _ w_38))) (hw _ w_38) (hw _ w_37) (by decide) (TS.lenB 1 D0 hw X_x (CS.ext OLD.2) hzc (by decide) (by decide)) X_x.exa rfl [] rfl (lenOf pd_16 rfl) rfl (Nat.le_of_eq rfl) (by decide) (by decide) d_prog_21m10_8 rfl ?_
  intro v338 T338 q338 D338
  subst q338
  show Go p e below _ (T338.setTop (mkF m 11 #[.val (.ref x), .val (.long (-3750763034362895579 : Int64)), .second, .val (.int (0 : Int32))] [(.int (3 : Int32)), (.int (0 : Int32))]))
  refine g_icmpN D338 14 d_prog_21m10_11 (by decide) rfl ?_
  refine g_lloadN D338 15 d_prog_21m10_14 rfl rfl ?_
  refine g_aloadN D338 16 d_prog_21m10_15 rfl rfl rfl ?_
  refine g_iloadN D338 17 d_prog_21m10_16 rfl rfl ?_
  refine g_callVp D338 20 (hw _ w_62) (hw _ w_63) (notFace_of_selects (args := #[]) (mvT D338.wm (hw _ w_65))) (hw _ w_65) (hw _ w_64) (by decide) ((cSCh_3_0 l Z a0 hw [] x zc fm c0 c1 c2 h0 n0 Z0 OLD SA SH SL CS hzc SFm rfm X_x).back D338 2 (hw _ w_66) (hw _ w_3) (by decide) (by decide)) X_x.exa rfl [(.int (0 : Int32))] rfl (lenOf pd_17 rfl) rfl (Nat.le_of_eq rfl) (by decide) (by decide) d_prog_21m10_17 rfl ?_
  intro v339 T339 q339 D339
  subst q339
  show Go p e below _ (T339.setTop (mkF m 20 #[.val (.ref x), .val (.long (-3750763034362895579 : Int64)), .second, .val (.int (0 : Int32))] [(.int c0), (.long (-3750763034362895579 : Int64))]))
  refine g_i2l D339 21 d_prog_21m10_20 rfl ?_
  refine g_lxor D339 22 d_prog_21m10_21 rfl ?_
  refine g_ldc2J D339 25 (hw _ w_84) d_prog_21m10_22 rfl ?_
  refine g_lmul D339 26 d_prog_21m10_25 rfl ?_
  refine g_lstoreN D339 27 #[.val (.ref x), .val (.long (((-3750763034362895579 : Int64) ^^^ (c0.toInt64)) * (1099511628211 : Int64))), .second, .val (.int (0 : Int32))] d_prog_21m10_26 rfl rfl ?_
  show Go p e below _ (T339.setTop (mkF m 27 #[.val (.ref x), .val (.long (own_st (-3750763034362895579 : Int64) c0)), .second, .val (.int (0 : Int32))] []))
  refine g_iinc D339 30 (1 : Int32) #[.val (.ref x), .val (.long (own_st (-3750763034362895579 : Int64) c0)), .second, .val (.int ((0 : Int32) + (1 : Int32)))] d_prog_21m10_27 rfl rfl rfl rfl ?_
  rw [show ((0 : Int32) + (1 : Int32)) = (1 : Int32) from by decide]
  refine g_goto D339 6 d_prog_21m10_30 (by decide) (by decide) ?_
  refine g_iloadN D339 7 d_prog_21m10_6 rfl rfl ?_
  refine g_aloadN D339 8 d_prog_21m10_7 rfl rfl rfl ?_
  refine g_callVp D339 11 (hw _ w_35) (hw _ w_36) (notFace_of_selects (args := #[]) (mvT D339.wm (hw _ w_38))) (hw _ w_38) (hw _ w_37) (by decide) (TS.lenB 1 D339 hw X_x (CS.ext OLD.2) hzc (by decide) (by decide)) X_x.exa rfl [] rfl (lenOf pd_16 rfl) rfl (Nat.le_of_eq rfl) (by decide) (by decide) d_prog_21m10_8 rfl ?_
  intro v340 T340 q340 D340
  subst q340
  show Go p e below _ (T340.setTop (mkF m 11 #[.val (.ref x), .val (.long (own_st (-3750763034362895579 : Int64) c0)), .second, .val (.int (1 : Int32))] [(.int (3 : Int32)), (.int (1 : Int32))]))
  refine g_icmpN D340 14 d_prog_21m10_11 (by decide) rfl ?_
  refine g_lloadN D340 15 d_prog_21m10_14 rfl rfl ?_
  refine g_aloadN D340 16 d_prog_21m10_15 rfl rfl rfl ?_
  refine g_iloadN D340 17 d_prog_21m10_16 rfl rfl ?_
  refine g_callVp D340 20 (hw _ w_62) (hw _ w_63) (notFace_of_selects (args := #[]) (mvT D340.wm (hw _ w_65))) (hw _ w_65) (hw _ w_64) (by decide) ((cSCh_3_1 l Z a0 hw [] x zc fm c0 c1 c2 h0 n0 Z0 OLD SA SH SL CS hzc SFm rfm X_x).back D340 2 (hw _ w_66) (hw _ w_3) (by decide) (by decide)) X_x.exa rfl [(.int (1 : Int32))] rfl (lenOf pd_17 rfl) rfl (Nat.le_of_eq rfl) (by decide) (by decide) d_prog_21m10_17 rfl ?_
  intro v341 T341 q341 D341
  subst q341
  show Go p e below _ (T341.setTop (mkF m 20 #[.val (.ref x), .val (.long (own_st (-3750763034362895579 : Int64) c0)), .second, .val (.int (1 : Int32))] [(.int c1), (.long (own_st (-3750763034362895579 : Int64) c0))]))
  refine g_i2l D341 21 d_prog_21m10_20 rfl ?_
  refine g_lxor D341 22 d_prog_21m10_21 rfl ?_
  refine g_ldc2J D341 25 (hw _ w_84) d_prog_21m10_22 rfl ?_
  refine g_lmul D341 26 d_prog_21m10_25 rfl ?_
  refine g_lstoreN D341 27 #[.val (.ref x), .val (.long (((own_st (-3750763034362895579 : Int64) c0) ^^^ (c1.toInt64)) * (1099511628211 : Int64))), .second, .val (.int (1 : Int32))] d_prog_21m10_26 rfl rfl ?_
  show Go p e below _ (T341.setTop (mkF m 27 #[.val (.ref x), .val (.long (own_st (own_st (-3750763034362895579 : Int64) c0) c1)), .second, .val (.int (1 : Int32))] []))
  refine g_iinc D341 30 (1 : Int32) #[.val (.ref x), .val (.long (own_st (own_st (-3750763034362895579 : Int64) c0) c1)), .second, .val (.int ((1 : Int32) + (1 : Int32)))] d_prog_21m10_27 rfl rfl rfl rfl ?_
  rw [show ((1 : Int32) + (1 : Int32)) = (2 : Int32) from by decide]
  refine g_goto D341 6 d_prog_21m10_30 (by decide) (by decide) ?_
  refine g_iloadN D341 7 d_prog_21m10_6 rfl rfl ?_
  refine g_aloadN D341 8 d_prog_21m10_7 rfl rfl rfl ?_
  refine g_callVp D341 11 (hw _ w_35) (hw _ w_36) (notFace_of_selects (args := #[]) (mvT D341.wm (hw _ w_38))) (hw _ w_38) (hw _ w_37) (by decide) (TS.lenB 1 D341 hw X_x (CS.ext OLD.2) hzc (by decide) (by decide)) X_x.exa rfl [] rfl (lenOf pd_16 rfl) rfl (Nat.le_of_eq rfl) (by decide) (by decide) d_prog_21m10_8 rfl ?_
  intro v342 T342 q342 D342
  subst q342
  show Go p e below _ (T342.setTop (mkF m 11 #[.val (.ref x), .val (.long (own_st (own_st (-3750763034362895579 : Int64) c0) c1)), .second, .val (.int (2 : Int32))] [(.int (3 : Int32)), (.int (2 : Int32))]))
  refine g_icmpN D342 14 d_prog_21m10_11 (by decide) rfl ?_
  refine g_lloadN D342 15 d_prog_21m10_14 rfl rfl ?_
  refine g_aloadN D342 16 d_prog_21m10_15 rfl rfl rfl ?_
  refine g_iloadN D342 17 d_prog_21m10_16 rfl rfl ?_
  refine g_callVp D342 20 (hw _ w_62) (hw _ w_63) (notFace_of_selects (args := #[]) (mvT D342.wm (hw _ w_65))) (hw _ w_65) (hw _ w_64) (by decide) ((cSCh_3_2 l Z a0 hw [] x zc fm c0 c1 c2 h0 n0 Z0 OLD SA SH SL CS hzc SFm rfm X_x).back D342 2 (hw _ w_66) (hw _ w_3) (by decide) (by decide)) X_x.exa rfl [(.int (2 : Int32))] rfl (lenOf pd_17 rfl) rfl (Nat.le_of_eq rfl) (by decide) (by decide) d_prog_21m10_17 rfl ?_
  intro v343 T343 q343 D343
  subst q343
  show Go p e below _ (T343.setTop (mkF m 20 #[.val (.ref x), .val (.long (own_st (own_st (-3750763034362895579 : Int64) c0) c1)), .second, .val (.int (2 : Int32))] [(.int c2), (.long (own_st (own_st (-3750763034362895579 : Int64) c0) c1))]))
  refine g_i2l D343 21 d_prog_21m10_20 rfl ?_
  refine g_lxor D343 22 d_prog_21m10_21 rfl ?_
  refine g_ldc2J D343 25 (hw _ w_84) d_prog_21m10_22 rfl ?_
  refine g_lmul D343 26 d_prog_21m10_25 rfl ?_
  refine g_lstoreN D343 27 #[.val (.ref x), .val (.long (((own_st (own_st (-3750763034362895579 : Int64) c0) c1) ^^^ (c2.toInt64)) * (1099511628211 : Int64))), .second, .val (.int (2 : Int32))] d_prog_21m10_26 rfl rfl ?_
  show Go p e below _ (T343.setTop (mkF m 27 #[.val (.ref x), .val (.long (own_st (own_st (own_st (-3750763034362895579 : Int64) c0) c1) c2)), .second, .val (.int (2 : Int32))] []))
  refine g_iinc D343 30 (1 : Int32) #[.val (.ref x), .val (.long (own_st (own_st (own_st (-3750763034362895579 : Int64) c0) c1) c2)), .second, .val (.int ((2 : Int32) + (1 : Int32)))] d_prog_21m10_27 rfl rfl rfl rfl ?_
  rw [show ((2 : Int32) + (1 : Int32)) = (3 : Int32) from by decide]
  refine g_goto D343 6 d_prog_21m10_30 (by decide) (by decide) ?_
  refine g_iloadN D343 7 d_prog_21m10_6 rfl rfl ?_
  refine g_aloadN D343 8 d_prog_21m10_7 rfl rfl rfl ?_
  refine g_callVp D343 11 (hw _ w_35) (hw _ w_36) (notFace_of_selects (args := #[]) (mvT D343.wm (hw _ w_38))) (hw _ w_38) (hw _ w_37) (by decide) (TS.lenB 1 D343 hw X_x (CS.ext OLD.2) hzc (by decide) (by decide)) X_x.exa rfl [] rfl (lenOf pd_16 rfl) rfl (Nat.le_of_eq rfl) (by decide) (by decide) d_prog_21m10_8 rfl ?_
  intro v344 T344 q344 D344
  subst q344
  show Go p e below _ (T344.setTop (mkF m 11 #[.val (.ref x), .val (.long (own_st (own_st (own_st (-3750763034362895579 : Int64) c0) c1) c2)), .second, .val (.int (3 : Int32))] [(.int (3 : Int32)), (.int (3 : Int32))]))
  refine g_icmpY D344 33 d_prog_21m10_11 (by decide) (by decide) (by decide) ?_
  refine g_lloadN D344 34 d_prog_21m10_33 rfl rfl ?_
  refine g_lloadN D344 35 d_prog_21m10_34 rfl rfl ?_
  refine g_bipush D344 37 (33 : Int32) d_prog_21m10_35 rfl rfl ?_
  refine g_lushr D344 38 d_prog_21m10_37 rfl ?_
  refine g_lxor D344 39 d_prog_21m10_38 rfl ?_
  refine g_ldc2J D344 42 (hw _ w_46) d_prog_21m10_39 rfl ?_
  refine g_lmul D344 43 d_prog_21m10_42 rfl ?_
  refine g_lstoreN D344 44 #[.val (.ref x), .val (.long (((own_st (own_st (own_st (-3750763034362895579 : Int64) c0) c1) c2) ^^^ (XT.ushrL (own_st (own_st (own_st (-3750763034362895579 : Int64) c0) c1) c2) (33 : Int32))) * (-49064778989728563 : Int64))), .second, .val (.int (3 : Int32))] d_prog_21m10_43 rfl rfl ?_
  refine g_lloadN D344 45 d_prog_21m10_44 rfl rfl ?_
  refine g_lloadN D344 46 d_prog_21m10_45 rfl rfl ?_
  refine g_bipush D344 48 (33 : Int32) d_prog_21m10_46 rfl rfl ?_
  refine g_lushr D344 49 d_prog_21m10_48 rfl ?_
  refine g_lxor D344 50 d_prog_21m10_49 rfl ?_
  refine g_ldc2J D344 53 (hw _ w_47) d_prog_21m10_50 rfl ?_
  refine g_lmul D344 54 d_prog_21m10_53 rfl ?_
  refine g_lstoreN D344 55 #[.val (.ref x), .val (.long (((((own_st (own_st (own_st (-3750763034362895579 : Int64) c0) c1) c2) ^^^ (XT.ushrL (own_st (own_st (own_st (-3750763034362895579 : Int64) c0) c1) c2) (33 : Int32))) * (-49064778989728563 : Int64)) ^^^ (XT.ushrL (((own_st (own_st (own_st (-3750763034362895579 : Int64) c0) c1) c2) ^^^ (XT.ushrL (own_st (own_st (own_st (-3750763034362895579 : Int64) c0) c1) c2) (33 : Int32))) * (-49064778989728563 : Int64)) (33 : Int32))) * (-4265267296055464877 : Int64))), .second, .val (.int (3 : Int32))] d_prog_21m10_54 rfl rfl ?_
  refine g_lloadN D344 56 d_prog_21m10_55 rfl rfl ?_
  refine g_lloadN D344 57 d_prog_21m10_56 rfl rfl ?_
  refine g_bipush D344 59 (33 : Int32) d_prog_21m10_57 rfl rfl ?_
  refine g_lushr D344 60 d_prog_21m10_59 rfl ?_
  refine g_lxor D344 61 d_prog_21m10_60 rfl ?_
  refine g_l2i D344 62 d_prog_21m10_61 rfl ?_
  refine g_istoreN D344 63 #[.val (.ref x), .val (.long (((((own_st (own_st (own_st (-3750763034362895579 : Int64) c0) c1) c2) ^^^ (XT.ushrL (own_st (own_st (own_st (-3750763034362895579 : Int64) c0) c1) c2) (33 : Int32))) * (-49064778989728563 : Int64)) ^^^ (XT.ushrL (((own_st (own_st (own_st (-3750763034362895579 : Int64) c0) c1) c2) ^^^ (XT.ushrL (own_st (own_st (own_st (-3750763034362895579 : Int64) c0) c1) c2) (33 : Int32))) * (-49064778989728563 : Int64)) (33 : Int32))) * (-4265267296055464877 : Int64))), .second, .val (.int (((((((own_st (own_st (own_st (-3750763034362895579 : Int64) c0) c1) c2) ^^^ (XT.ushrL (own_st (own_st (own_st (-3750763034362895579 : Int64) c0) c1) c2) (33 : Int32))) * (-49064778989728563 : Int64)) ^^^ (XT.ushrL (((own_st (own_st (own_st (-3750763034362895579 : Int64) c0) c1) c2) ^^^ (XT.ushrL (own_st (own_st (own_st (-3750763034362895579 : Int64) c0) c1) c2) (33 : Int32))) * (-49064778989728563 : Int64)) (33 : Int32))) * (-4265267296055464877 : Int64)) ^^^ (XT.ushrL (((((own_st (own_st (own_st (-3750763034362895579 : Int64) c0) c1) c2) ^^^ (XT.ushrL (own_st (own_st (own_st (-3750763034362895579 : Int64) c0) c1) c2) (33 : Int32))) * (-49064778989728563 : Int64)) ^^^ (XT.ushrL (((own_st (own_st (own_st (-3750763034362895579 : Int64) c0) c1) c2) ^^^ (XT.ushrL (own_st (own_st (own_st (-3750763034362895579 : Int64) c0) c1) c2) (33 : Int32))) * (-49064778989728563 : Int64)) (33 : Int32))) * (-4265267296055464877 : Int64)) (33 : Int32))).toInt32))] d_prog_21m10_62 rfl rfl ?_
  refine g_iloadN D344 64 d_prog_21m10_63 rfl rfl ?_
  show Go p e below _ (T344.setTop (mkF m 64 #[.val (.ref x), .val (.long ((own_m1 ((own_m1 (own_st (own_st (own_st (-3750763034362895579 : Int64) c0) c1) c2)) * (-49064778989728563 : Int64))) * (-4265267296055464877 : Int64))), .second, .val (.int ((own_mx (own_st (own_st (own_st (-3750763034362895579 : Int64) c0) c1) c2)).toInt32))] [(.int (((((((own_st (own_st (own_st (-3750763034362895579 : Int64) c0) c1) c2) ^^^ (XT.ushrL (own_st (own_st (own_st (-3750763034362895579 : Int64) c0) c1) c2) (33 : Int32))) * (-49064778989728563 : Int64)) ^^^ (XT.ushrL (((own_st (own_st (own_st (-3750763034362895579 : Int64) c0) c1) c2) ^^^ (XT.ushrL (own_st (own_st (own_st (-3750763034362895579 : Int64) c0) c1) c2) (33 : Int32))) * (-49064778989728563 : Int64)) (33 : Int32))) * (-4265267296055464877 : Int64)) ^^^ (XT.ushrL (((((own_st (own_st (own_st (-3750763034362895579 : Int64) c0) c1) c2) ^^^ (XT.ushrL (own_st (own_st (own_st (-3750763034362895579 : Int64) c0) c1) c2) (33 : Int32))) * (-49064778989728563 : Int64)) ^^^ (XT.ushrL (((own_st (own_st (own_st (-3750763034362895579 : Int64) c0) c1) c2) ^^^ (XT.ushrL (own_st (own_st (own_st (-3750763034362895579 : Int64) c0) c1) c2) (33 : Int32))) * (-49064778989728563 : Int64)) (33 : Int32))) * (-4265267296055464877 : Int64)) (33 : Int32))).toInt32))]))
  by_cases z0 : (((((((own_st (own_st (own_st (-3750763034362895579 : Int64) c0) c1) c2) ^^^ (XT.ushrL (own_st (own_st (own_st (-3750763034362895579 : Int64) c0) c1) c2) (33 : Int32))) * (-49064778989728563 : Int64)) ^^^ (XT.ushrL (((own_st (own_st (own_st (-3750763034362895579 : Int64) c0) c1) c2) ^^^ (XT.ushrL (own_st (own_st (own_st (-3750763034362895579 : Int64) c0) c1) c2) (33 : Int32))) * (-49064778989728563 : Int64)) (33 : Int32))) * (-4265267296055464877 : Int64)) ^^^ (XT.ushrL (((((own_st (own_st (own_st (-3750763034362895579 : Int64) c0) c1) c2) ^^^ (XT.ushrL (own_st (own_st (own_st (-3750763034362895579 : Int64) c0) c1) c2) (33 : Int32))) * (-49064778989728563 : Int64)) ^^^ (XT.ushrL (((own_st (own_st (own_st (-3750763034362895579 : Int64) c0) c1) c2) ^^^ (XT.ushrL (own_st (own_st (own_st (-3750763034362895579 : Int64) c0) c1) c2) (33 : Int32))) * (-49064778989728563 : Int64)) (33 : Int32))) * (-4265267296055464877 : Int64)) (33 : Int32))).toInt32) = (0 : Int32)
  · refine g_ifN D344 67 d_prog_21m10_64 (teq z0).2 rfl ?_
    refine g_iconst D344 68 (1 : Int32) d_prog_21m10_67 rfl rfl ?_
    refine g_goto D344 72 d_prog_21m10_68 (by decide) (by decide) ?_
    exact r_I D344 hret hlk d_prog_21m10_72 ⟨congrArg (fun z => some (Value.int z)) (if_pos z0).symm, rfl, rfl⟩ (by decide) (by decide)
  · refine g_ifY D344 71 d_prog_21m10_64 (feq z0).2 (by decide) (by decide) ?_
    refine g_iloadN D344 72 d_prog_21m10_71 rfl rfl ?_
    exact r_I D344 hret hlk d_prog_21m10_72 ⟨congrArg (fun z => some (Value.int z)) (if_neg z0).symm, rfl, rfl⟩ (by decide) (by decide)
set_option maxRecDepth 65536 in
set_option maxHeartbeats 40000000 in
theorem cX (l : Launch) (Z : State) (a0 : Array Value) (hw : ∀ d ∈ tables_1, d.before a0 Z = true) (ws : List Jvm.Cond) (len i1 i2 i3 zc : Int32) (fm : Value) (h0 : Heap) (n0 : Nat) (Z0 : n0 ≤ h0.size) (hEW : EW Z a0 consts_1) (OLD : Old Z n0 h0) (SA : Sta Z Z.heap "java/lang/StringUTF16" "$assertionsDisabled" "Z" (.int (1 : Int32))) (SH : Sta Z Z.heap "java/lang/StringUTF16" "HI_BYTE_SHIFT" "I" (.int (0 : Int32))) (SL : Sta Z Z.heap "java/lang/StringUTF16" "LO_BYTE_SHIFT" "I" (.int (8 : Int32))) (CS : Sta Z Z.heap "java/lang/String" "COMPACT_STRINGS" "Z" (.int zc)) (hzc : ¬ zc = 0) (SFm : Sta Z Z.heap "jdk/internal/util/Preconditions" "SIOOBE_FORMATTER" "Ljava/util/function/BiFunction;" fm) (rfm : fm.isRef = true) :
    ConW l x code maxLocals ret ws room_1 Z consts_1 #[(.int len), (.int i1), (.int i2), (.int i3)] h0 (fun v h L => v = some (.int 1) ∧ Fr n0 L) 24 1152 := by
  refine enterW (plainFor_of_name pn_4) ?_
  intro p e s m below meth c s₁ hnm hret hlk D0
  rw [ef_cX m len i1 i2 i3]
  refine g_iloadN D0 1 at_0 rfl rfl ?_
  refine g_iconst D0 2 (3 : Int32) at_1 rfl rfl ?_
  refine g_iand D0 3 at_2 rfl ?_
  refine g_istore D0 5 #[.val (.int len), .val (.int i1), .val (.int i2), .val (.int i3), .val (.int (len &&& (3 : Int32))), .unset, .unset, .unset, .unset, .unset, .unset, .unset, .unset, .unset] at_3 rfl rfl ?_
  refine g_iloadN D0 6 at_5 rfl rfl ?_
  refine g_ldcI D0 8 (hw _ w_0) at_6 rfl ?_
  refine g_iand D0 9 at_8 rfl ?_
  refine g_i2c D0 10 at_9 rfl ?_
  refine g_istore D0 12 #[.val (.int len), .val (.int i1), .val (.int i2), .val (.int i3), .val (.int (len &&& (3 : Int32))), .val (.int ((i1 &&& (65535 : Int32)).toUInt32.toUInt16.toUInt32.toInt32)), .unset, .unset, .unset, .unset, .unset, .unset, .unset, .unset] at_10 rfl rfl ?_
  refine g_iloadN D0 13 at_12 rfl rfl ?_
  refine g_ldcI D0 15 (hw _ w_0) at_13 rfl ?_
  refine g_iand D0 16 at_15 rfl ?_
  refine g_i2c D0 17 at_16 rfl ?_
  refine g_istore D0 19 #[.val (.int len), .val (.int i1), .val (.int i2), .val (.int i3), .val (.int (len &&& (3 : Int32))), .val (.int ((i1 &&& (65535 : Int32)).toUInt32.toUInt16.toUInt32.toInt32)), .val (.int ((i2 &&& (65535 : Int32)).toUInt32.toUInt16.toUInt32.toInt32)), .unset, .unset, .unset, .unset, .unset, .unset, .unset] at_17 rfl rfl ?_
  refine g_iloadN D0 20 at_19 rfl rfl ?_
  refine g_ldcI D0 22 (hw _ w_0) at_20 rfl ?_
  refine g_iand D0 23 at_22 rfl ?_
  refine g_i2c D0 24 at_23 rfl ?_
  refine g_istore D0 26 #[.val (.int len), .val (.int i1), .val (.int i2), .val (.int i3), .val (.int (len &&& (3 : Int32))), .val (.int ((i1 &&& (65535 : Int32)).toUInt32.toUInt16.toUInt32.toInt32)), .val (.int ((i2 &&& (65535 : Int32)).toUInt32.toUInt16.toUInt32.toInt32)), .val (.int ((i3 &&& (65535 : Int32)).toUInt32.toUInt16.toUInt32.toInt32)), .unset, .unset, .unset, .unset, .unset, .unset] at_24 rfl rfl ?_
  generalize hec0 : ((i1 &&& (65535 : Int32)).toUInt32.toUInt16.toUInt32.toInt32) = c0
  have H0 : C16 c0 := hec0 ▸ c16_i2c _
  generalize hec1 : ((i2 &&& (65535 : Int32)).toUInt32.toUInt16.toUInt32.toInt32) = c1
  have H1 : C16 c1 := hec1 ▸ c16_i2c _
  generalize hec2 : ((i3 &&& (65535 : Int32)).toUInt32.toUInt16.toUInt32.toInt32) = c2
  have H2 : C16 c2 := hec2 ▸ c16_i2c _
  generalize henn : (len &&& (3 : Int32)) = nn
  have hnn := own_03 (henn ▸ and_le _ (k := 3) (K := 3) (by decide) (by decide) : 0 ≤ nn.toInt ∧ nn.toInt ≤ 3)
  rcases hnn with rfl | rfl | rfl | rfl
  · refine g_iload D0 28 at_26 rfl rfl ?_
    refine g_ifN D0 31 at_28 (by decide) rfl ?_
    refine g_newO D0 34 (hw _ w_1) (hw _ w_2) (hw _ w_3) at_31 (by decide) (by decide) (fun _ E => D0.iv.ext E) rfl ?_
    intro T345 h345 a345 g345 E345 A345 N345 D345
    refine g_dup D345 35 at_34 rfl rfl ?_
    refine g_iconst D345 36 (0 : Int32) at_35 rfl rfl ?_
    refine g_newP D345 38 (aty := .char) (hw _ w_4) at_36 (by decide) (cap := 0) (by decide) (by decide) (by decide) (by decide) (fun _ E => D345.iv.ext E) rfl ?_
    intro T346 h346 a346 k346 g346 E346 V346 D346
    refine g_callNW D346 41 hEW rfl (hw _ w_5) (hw _ w_6) (hw _ w_3) (hw _ w_7) (by decide) (cE1 l Z a0 hw [] a345 a346 k346 h346 n0 (Nat.le_trans (Nat.le_trans Z0 E345.1) E346.1) hEW (A345.ext E346) ((N345 (Or.inr (hw _ w_17)) (ty := (.array .byte)) (by decide)).ext E346) ((N345 (Or.inr (hw _ w_18)) (ty := .byte) (by decide)).ext E346) (Nat.le_trans Z0 (Nat.le_of_eq g345.symm)) V346) rfl [(.ref a346)] rfl (lenOf pd_18 rfl) rfl 1 (Nat.le_of_eq rfl) (by decide) (by decide) (by decide) (by decide) at_38 rfl ?_
    intro v347 s347 T347 h347 L347 q347 SF347 D347
    obtain ⟨rfl, N347, K347, X347⟩ := q347
    have NF347 := Fr.app (Fr.nil n0) N347
    show Go p e below _ (T347.setTop (mkF m 41 #[.val (.int len), .val (.int i1), .val (.int i2), .val (.int i3), .val (.int (0 : Int32)), .val (.int c0), .val (.int c1), .val (.int c2), .unset, .unset, .unset, .unset, .unset, .unset] [(.ref a345)]))
    have TX347 := LS.ts X347
    have XX := TX347
    refine g_astore D347 43 #[.val (.int len), .val (.int i1), .val (.int i2), .val (.int i3), .val (.int (0 : Int32)), .val (.int c0), .val (.int c1), .val (.int c2), .val (.ref a345), .unset, .unset, .unset, .unset, .unset] at_41 rfl rfl rfl ?_
    refine g_goto D347 120 at_43 (by decide) (by decide) ?_
    refine g_ldc2J D347 123 (hw _ w_23) at_120 rfl ?_
    refine g_lstore D347 125 #[.val (.int len), .val (.int i1), .val (.int i2), .val (.int i3), .val (.int (0 : Int32)), .val (.int c0), .val (.int c1), .val (.int c2), .val (.ref a345), .val (.long (-3750763034362895579 : Int64)), .second, .unset, .unset, .unset] at_123 rfl rfl ?_
    refine g_iload D347 127 at_125 rfl rfl ?_
    refine g_iconst D347 128 (1 : Int32) at_127 rfl rfl ?_
    refine g_icmpY D347 140 at_128 (by decide) (by decide) (by decide) ?_
    refine g_iload D347 142 at_140 rfl rfl ?_
    refine g_iconst D347 143 (2 : Int32) at_142 rfl rfl ?_
    refine g_icmpY D347 155 at_143 (by decide) (by decide) (by decide) ?_
    refine g_iload D347 157 at_155 rfl rfl ?_
    refine g_iconst D347 158 (3 : Int32) at_157 rfl rfl ?_
    refine g_icmpY D347 170 at_158 (by decide) (by decide) (by decide) ?_
    refine g_lload D347 172 at_170 rfl rfl ?_
    refine g_callSp D347 175 (hw _ w_24) (hw _ w_25) (hw _ w_26) (hw _ w_27) (by decide) ((cMx l Z a0 hw [] (-3750763034362895579 : Int64) h347 n0 (Nat.le_trans (Nat.le_trans (Nat.le_trans Z0 E345.1) E346.1) K347.1)).back D347 0 (hw _ w_27) (hw _ w_26) (by decide) (by decide)) rfl [(.long (-3750763034362895579 : Int64))] rfl (lenOf pd_19 rfl) rfl (Nat.le_of_eq rfl) (by decide) (by decide) at_172 rfl ?_
    intro v348 T348 q348 D348
    subst q348
    show Go p e below _ (T348.setTop (mkF m 175 #[.val (.int len), .val (.int i1), .val (.int i2), .val (.int i3), .val (.int (0 : Int32)), .val (.int c0), .val (.int c1), .val (.int c2), .val (.ref a345), .val (.long (-3750763034362895579 : Int64)), .second, .unset, .unset, .unset] [(.long (own_mx (-3750763034362895579 : Int64)))]))
    refine g_l2i D348 176 at_175 rfl ?_
    refine g_istore D348 178 #[.val (.int len), .val (.int i1), .val (.int i2), .val (.int i3), .val (.int (0 : Int32)), .val (.int c0), .val (.int c1), .val (.int c2), .val (.ref a345), .val (.long (-3750763034362895579 : Int64)), .second, .val (.int ((own_mx (-3750763034362895579 : Int64)).toInt32)), .unset, .unset] at_176 rfl rfl ?_
    refine g_iload D348 180 at_178 rfl rfl ?_
    by_cases z0 : ((own_mx (-3750763034362895579 : Int64)).toInt32) = (0 : Int32)
    · refine g_ifN D348 183 at_180 (teq z0).2 rfl ?_
      refine g_iconst D348 184 (1 : Int32) at_183 rfl rfl ?_
      refine g_goto D348 189 at_184 (by decide) (by decide) ?_
      refine g_istore D348 191 #[.val (.int len), .val (.int i1), .val (.int i2), .val (.int i3), .val (.int (0 : Int32)), .val (.int c0), .val (.int c1), .val (.int c2), .val (.ref a345), .val (.long (-3750763034362895579 : Int64)), .second, .val (.int ((own_mx (-3750763034362895579 : Int64)).toInt32)), .val (.int (1 : Int32)), .unset] at_189 rfl rfl ?_
      refine g_aload D348 193 at_191 rfl rfl rfl ?_
      refine g_callSp D348 196 (hw _ w_30) (hw _ w_31) (hw _ w_32) (hw _ w_33) (by decide) ((cHa_0 l Z a0 hw [] a345 zc fm  h347 n0 (Nat.le_trans (Nat.le_trans (Nat.le_trans Z0 E345.1) E346.1) K347.1) (((OLD.ext E345).ext E346).keep K347 (allS (Nat.le_trans Z0 (Nat.le_of_eq g345.symm)) all0)) SA SH SL CS hzc SFm rfm XX).back D348 0 (hw _ w_33) (hw _ w_32) (by decide) (by decide)) rfl [(.ref a345)] rfl (lenOf pd_20 rfl) rfl (Nat.le_of_eq rfl) (by decide) (by decide) at_193 rfl ?_
      intro v349 T349 q349 D349
      subst q349
      show Go p e below _ (T349.setTop (mkF m 196 #[.val (.int len), .val (.int i1), .val (.int i2), .val (.int i3), .val (.int (0 : Int32)), .val (.int c0), .val (.int c1), .val (.int c2), .val (.ref a345), .val (.long (-3750763034362895579 : Int64)), .second, .val (.int ((own_mx (-3750763034362895579 : Int64)).toInt32)), .val (.int (1 : Int32)), .unset] [(.int (own_ex (-3750763034362895579 : Int64)))]))
      rw [show own_ex (-3750763034362895579 : Int64) = (1 : Int32) from if_pos z0]
      refine g_istore D349 198 #[.val (.int len), .val (.int i1), .val (.int i2), .val (.int i3), .val (.int (0 : Int32)), .val (.int c0), .val (.int c1), .val (.int c2), .val (.ref a345), .val (.long (-3750763034362895579 : Int64)), .second, .val (.int ((own_mx (-3750763034362895579 : Int64)).toInt32)), .val (.int (1 : Int32)), .val (.int (1 : Int32))] at_196 rfl rfl ?_
      refine g_iload D349 200 at_198 rfl rfl ?_
      refine g_iload D349 202 at_200 rfl rfl ?_
      refine g_icmpN D349 205 at_202 (by decide) rfl ?_
      refine g_iload D349 207 at_205 rfl rfl ?_
      refine g_ifN D349 210 at_207 (by decide) rfl ?_
      refine g_iconst D349 211 (1 : Int32) at_210 rfl rfl ?_
      refine g_goto D349 215 at_211 (by decide) (by decide) ?_
      exact r_Nw D349 hEW hret (by simp) hlk at_215 ⟨own_r1, NF347⟩ (by decide) (by decide)
    · refine g_ifY D348 187 at_180 (feq z0).2 (by decide) (by decide) ?_
      refine g_iload D348 189 at_187 rfl rfl ?_
      refine g_istore D348 191 #[.val (.int len), .val (.int i1), .val (.int i2), .val (.int i3), .val (.int (0 : Int32)), .val (.int c0), .val (.int c1), .val (.int c2), .val (.ref a345), .val (.long (-3750763034362895579 : Int64)), .second, .val (.int ((own_mx (-3750763034362895579 : Int64)).toInt32)), .val (.int ((own_mx (-3750763034362895579 : Int64)).toInt32)), .unset] at_189 rfl rfl ?_
      refine g_aload D348 193 at_191 rfl rfl rfl ?_
      refine g_callSp D348 196 (hw _ w_30) (hw _ w_31) (hw _ w_32) (hw _ w_33) (by decide) ((cHa_0 l Z a0 hw [] a345 zc fm  h347 n0 (Nat.le_trans (Nat.le_trans (Nat.le_trans Z0 E345.1) E346.1) K347.1) (((OLD.ext E345).ext E346).keep K347 (allS (Nat.le_trans Z0 (Nat.le_of_eq g345.symm)) all0)) SA SH SL CS hzc SFm rfm XX).back D348 0 (hw _ w_33) (hw _ w_32) (by decide) (by decide)) rfl [(.ref a345)] rfl (lenOf pd_20 rfl) rfl (Nat.le_of_eq rfl) (by decide) (by decide) at_193 rfl ?_
      intro v350 T350 q350 D350
      subst q350
      show Go p e below _ (T350.setTop (mkF m 196 #[.val (.int len), .val (.int i1), .val (.int i2), .val (.int i3), .val (.int (0 : Int32)), .val (.int c0), .val (.int c1), .val (.int c2), .val (.ref a345), .val (.long (-3750763034362895579 : Int64)), .second, .val (.int ((own_mx (-3750763034362895579 : Int64)).toInt32)), .val (.int ((own_mx (-3750763034362895579 : Int64)).toInt32)), .unset] [(.int (own_ex (-3750763034362895579 : Int64)))]))
      rw [show own_ex (-3750763034362895579 : Int64) = ((own_mx (-3750763034362895579 : Int64)).toInt32) from if_neg z0]
      refine g_istore D350 198 #[.val (.int len), .val (.int i1), .val (.int i2), .val (.int i3), .val (.int (0 : Int32)), .val (.int c0), .val (.int c1), .val (.int c2), .val (.ref a345), .val (.long (-3750763034362895579 : Int64)), .second, .val (.int ((own_mx (-3750763034362895579 : Int64)).toInt32)), .val (.int ((own_mx (-3750763034362895579 : Int64)).toInt32)), .val (.int ((own_mx (-3750763034362895579 : Int64)).toInt32))] at_196 rfl rfl ?_
      refine g_iload D350 200 at_198 rfl rfl ?_
      refine g_iload D350 202 at_200 rfl rfl ?_
      refine g_icmpN D350 205 at_202 (teq rfl).2 rfl ?_
      refine g_iload D350 207 at_205 rfl rfl ?_
      refine g_ifN D350 210 at_207 (feq z0).1 rfl ?_
      refine g_iconst D350 211 (1 : Int32) at_210 rfl rfl ?_
      refine g_goto D350 215 at_211 (by decide) (by decide) ?_
      exact r_Nw D350 hEW hret (by simp) hlk at_215 ⟨own_r1, NF347⟩ (by decide) (by decide)
  · refine g_iload D0 28 at_26 rfl rfl ?_
    refine g_ifY D0 46 at_28 (by decide) (by decide) (by decide) ?_
    refine g_iload D0 48 at_46 rfl rfl ?_
    refine g_iconst D0 49 (1 : Int32) at_48 rfl rfl ?_
    refine g_icmpN D0 52 at_49 (by decide) rfl ?_
    refine g_iload D0 54 at_52 rfl rfl ?_
    refine g_callS D0 57 (hw _ w_114) (hw _ w_115) (hw _ w_3) (hw _ w_116) (by decide) ((cVal l Z a0 hw [] c0 zc h0 n0 Z0 OLD SA SH SL CS hzc H0).back D0 0 (hw _ w_116) (hw _ w_3) (by decide) (by decide)) rfl [(.int c0)] rfl (lenOf pd_21 rfl) rfl (Nat.le_of_eq rfl) (by decide) (by decide) (fun _ _ _ q => by obtain ⟨_, _, _, E, _⟩ := q; exact D0.iv.ext E) at_54 rfl ?_
    intro v351 T351 h351 L351 q351 D351
    obtain ⟨x351, rfl, N351, E351, XX⟩ := q351
    have NF351 := Fr.app (Fr.nil n0) N351
    show Go p e below _ (T351.setTop (mkF m 57 #[.val (.int len), .val (.int i1), .val (.int i2), .val (.int i3), .val (.int (1 : Int32)), .val (.int c0), .val (.int c1), .val (.int c2), .unset, .unset, .unset, .unset, .unset, .unset] [(.ref x351)]))
    refine g_astore D351 59 #[.val (.int len), .val (.int i1), .val (.int i2), .val (.int i3), .val (.int (1 : Int32)), .val (.int c0), .val (.int c1), .val (.int c2), .val (.ref x351), .unset, .unset, .unset, .unset, .unset] at_57 rfl rfl rfl ?_
    refine g_goto D351 120 at_59 (by decide) (by decide) ?_
    refine g_ldc2J D351 123 (hw _ w_23) at_120 rfl ?_
    refine g_lstore D351 125 #[.val (.int len), .val (.int i1), .val (.int i2), .val (.int i3), .val (.int (1 : Int32)), .val (.int c0), .val (.int c1), .val (.int c2), .val (.ref x351), .val (.long (-3750763034362895579 : Int64)), .second, .unset, .unset, .unset] at_123 rfl rfl ?_
    refine g_iload D351 127 at_125 rfl rfl ?_
    refine g_iconst D351 128 (1 : Int32) at_127 rfl rfl ?_
    refine g_icmpN D351 131 at_128 (by decide) rfl ?_
    refine g_lload D351 133 at_131 rfl rfl ?_
    refine g_iload D351 135 at_133 rfl rfl ?_
    refine g_callSp D351 138 (hw _ w_58) (hw _ w_59) (hw _ w_26) (hw _ w_60) (by decide) ((cFn l Z a0 hw [] (-3750763034362895579 : Int64) c0 h351 n0 (Nat.le_trans Z0 E351.1)).back D351 0 (hw _ w_60) (hw _ w_26) (by decide) (by decide)) rfl [(.long (-3750763034362895579 : Int64)), (.int c0)] rfl (lenOf pd_22 rfl) rfl (Nat.le_of_eq rfl) (by decide) (by decide) at_135 rfl ?_
    intro v352 T352 q352 D352
    subst q352
    show Go p e below _ (T352.setTop (mkF m 138 #[.val (.int len), .val (.int i1), .val (.int i2), .val (.int i3), .val (.int (1 : Int32)), .val (.int c0), .val (.int c1), .val (.int c2), .val (.ref x351), .val (.long (-3750763034362895579 : Int64)), .second, .unset, .unset, .unset] [(.long (own_st (-3750763034362895579 : Int64) c0))]))
    refine g_lstore D352 140 #[.val (.int len), .val (.int i1), .val (.int i2), .val (.int i3), .val (.int (1 : Int32)), .val (.int c0), .val (.int c1), .val (.int c2), .val (.ref x351), .val (.long (own_st (-3750763034362895579 : Int64) c0)), .second, .unset, .unset, .unset] at_138 rfl rfl ?_
    refine g_iload D352 142 at_140 rfl rfl ?_
    refine g_iconst D352 143 (2 : Int32) at_142 rfl rfl ?_
    refine g_icmpY D352 155 at_143 (by decide) (by decide) (by decide) ?_
    refine g_iload D352 157 at_155 rfl rfl ?_
    refine g_iconst D352 158 (3 : Int32) at_157 rfl rfl ?_
    refine g_icmpY D352 170 at_158 (by decide) (by decide) (by decide) ?_
    refine g_lload D352 172 at_170 rfl rfl ?_
    refine g_callSp D352 175 (hw _ w_24) (hw _ w_25) (hw _ w_26) (hw _ w_27) (by decide) ((cMx l Z a0 hw [] (own_st (-3750763034362895579 : Int64) c0) h351 n0 (Nat.le_trans Z0 E351.1)).back D352 0 (hw _ w_27) (hw _ w_26) (by decide) (by decide)) rfl [(.long (own_st (-3750763034362895579 : Int64) c0))] rfl (lenOf pd_19 rfl) rfl (Nat.le_of_eq rfl) (by decide) (by decide) at_172 rfl ?_
    intro v353 T353 q353 D353
    subst q353
    show Go p e below _ (T353.setTop (mkF m 175 #[.val (.int len), .val (.int i1), .val (.int i2), .val (.int i3), .val (.int (1 : Int32)), .val (.int c0), .val (.int c1), .val (.int c2), .val (.ref x351), .val (.long (own_st (-3750763034362895579 : Int64) c0)), .second, .unset, .unset, .unset] [(.long (own_mx (own_st (-3750763034362895579 : Int64) c0)))]))
    refine g_l2i D353 176 at_175 rfl ?_
    refine g_istore D353 178 #[.val (.int len), .val (.int i1), .val (.int i2), .val (.int i3), .val (.int (1 : Int32)), .val (.int c0), .val (.int c1), .val (.int c2), .val (.ref x351), .val (.long (own_st (-3750763034362895579 : Int64) c0)), .second, .val (.int ((own_mx (own_st (-3750763034362895579 : Int64) c0)).toInt32)), .unset, .unset] at_176 rfl rfl ?_
    refine g_iload D353 180 at_178 rfl rfl ?_
    by_cases z0 : ((own_mx (own_st (-3750763034362895579 : Int64) c0)).toInt32) = (0 : Int32)
    · refine g_ifN D353 183 at_180 (teq z0).2 rfl ?_
      refine g_iconst D353 184 (1 : Int32) at_183 rfl rfl ?_
      refine g_goto D353 189 at_184 (by decide) (by decide) ?_
      refine g_istore D353 191 #[.val (.int len), .val (.int i1), .val (.int i2), .val (.int i3), .val (.int (1 : Int32)), .val (.int c0), .val (.int c1), .val (.int c2), .val (.ref x351), .val (.long (own_st (-3750763034362895579 : Int64) c0)), .second, .val (.int ((own_mx (own_st (-3750763034362895579 : Int64) c0)).toInt32)), .val (.int (1 : Int32)), .unset] at_189 rfl rfl ?_
      refine g_aload D353 193 at_191 rfl rfl rfl ?_
      refine g_callSp D353 196 (hw _ w_30) (hw _ w_31) (hw _ w_32) (hw _ w_33) (by decide) ((cHa_1 l Z a0 hw [] x351 zc fm c0 h351 n0 (Nat.le_trans Z0 E351.1) (OLD.ext E351) SA SH SL CS hzc SFm rfm XX).back D353 0 (hw _ w_33) (hw _ w_32) (by decide) (by decide)) rfl [(.ref x351)] rfl (lenOf pd_20 rfl) rfl (Nat.le_of_eq rfl) (by decide) (by decide) at_193 rfl ?_
      intro v354 T354 q354 D354
      subst q354
      show Go p e below _ (T354.setTop (mkF m 196 #[.val (.int len), .val (.int i1), .val (.int i2), .val (.int i3), .val (.int (1 : Int32)), .val (.int c0), .val (.int c1), .val (.int c2), .val (.ref x351), .val (.long (own_st (-3750763034362895579 : Int64) c0)), .second, .val (.int ((own_mx (own_st (-3750763034362895579 : Int64) c0)).toInt32)), .val (.int (1 : Int32)), .unset] [(.int (own_ex (own_st (-3750763034362895579 : Int64) c0)))]))
      rw [show own_ex (own_st (-3750763034362895579 : Int64) c0) = (1 : Int32) from if_pos z0]
      refine g_istore D354 198 #[.val (.int len), .val (.int i1), .val (.int i2), .val (.int i3), .val (.int (1 : Int32)), .val (.int c0), .val (.int c1), .val (.int c2), .val (.ref x351), .val (.long (own_st (-3750763034362895579 : Int64) c0)), .second, .val (.int ((own_mx (own_st (-3750763034362895579 : Int64) c0)).toInt32)), .val (.int (1 : Int32)), .val (.int (1 : Int32))] at_196 rfl rfl ?_
      refine g_iload D354 200 at_198 rfl rfl ?_
      refine g_iload D354 202 at_200 rfl rfl ?_
      refine g_icmpN D354 205 at_202 (by decide) rfl ?_
      refine g_iload D354 207 at_205 rfl rfl ?_
      refine g_ifN D354 210 at_207 (by decide) rfl ?_
      refine g_iconst D354 211 (1 : Int32) at_210 rfl rfl ?_
      refine g_goto D354 215 at_211 (by decide) (by decide) ?_
      exact r_Nw D354 hEW hret (by simp) hlk at_215 ⟨own_r1, NF351⟩ (by decide) (by decide)
    · refine g_ifY D353 187 at_180 (feq z0).2 (by decide) (by decide) ?_
      refine g_iload D353 189 at_187 rfl rfl ?_
      refine g_istore D353 191 #[.val (.int len), .val (.int i1), .val (.int i2), .val (.int i3), .val (.int (1 : Int32)), .val (.int c0), .val (.int c1), .val (.int c2), .val (.ref x351), .val (.long (own_st (-3750763034362895579 : Int64) c0)), .second, .val (.int ((own_mx (own_st (-3750763034362895579 : Int64) c0)).toInt32)), .val (.int ((own_mx (own_st (-3750763034362895579 : Int64) c0)).toInt32)), .unset] at_189 rfl rfl ?_
      refine g_aload D353 193 at_191 rfl rfl rfl ?_
      refine g_callSp D353 196 (hw _ w_30) (hw _ w_31) (hw _ w_32) (hw _ w_33) (by decide) ((cHa_1 l Z a0 hw [] x351 zc fm c0 h351 n0 (Nat.le_trans Z0 E351.1) (OLD.ext E351) SA SH SL CS hzc SFm rfm XX).back D353 0 (hw _ w_33) (hw _ w_32) (by decide) (by decide)) rfl [(.ref x351)] rfl (lenOf pd_20 rfl) rfl (Nat.le_of_eq rfl) (by decide) (by decide) at_193 rfl ?_
      intro v355 T355 q355 D355
      subst q355
      show Go p e below _ (T355.setTop (mkF m 196 #[.val (.int len), .val (.int i1), .val (.int i2), .val (.int i3), .val (.int (1 : Int32)), .val (.int c0), .val (.int c1), .val (.int c2), .val (.ref x351), .val (.long (own_st (-3750763034362895579 : Int64) c0)), .second, .val (.int ((own_mx (own_st (-3750763034362895579 : Int64) c0)).toInt32)), .val (.int ((own_mx (own_st (-3750763034362895579 : Int64) c0)).toInt32)), .unset] [(.int (own_ex (own_st (-3750763034362895579 : Int64) c0)))]))
      rw [show own_ex (own_st (-3750763034362895579 : Int64) c0) = ((own_mx (own_st (-3750763034362895579 : Int64) c0)).toInt32) from if_neg z0]
      refine g_istore D355 198 #[.val (.int len), .val (.int i1), .val (.int i2), .val (.int i3), .val (.int (1 : Int32)), .val (.int c0), .val (.int c1), .val (.int c2), .val (.ref x351), .val (.long (own_st (-3750763034362895579 : Int64) c0)), .second, .val (.int ((own_mx (own_st (-3750763034362895579 : Int64) c0)).toInt32)), .val (.int ((own_mx (own_st (-3750763034362895579 : Int64) c0)).toInt32)), .val (.int ((own_mx (own_st (-3750763034362895579 : Int64) c0)).toInt32))] at_196 rfl rfl ?_
      refine g_iload D355 200 at_198 rfl rfl ?_
      refine g_iload D355 202 at_200 rfl rfl ?_
      refine g_icmpN D355 205 at_202 (teq rfl).2 rfl ?_
      refine g_iload D355 207 at_205 rfl rfl ?_
      refine g_ifN D355 210 at_207 (feq z0).1 rfl ?_
      refine g_iconst D355 211 (1 : Int32) at_210 rfl rfl ?_
      refine g_goto D355 215 at_211 (by decide) (by decide) ?_
      exact r_Nw D355 hEW hret (by simp) hlk at_215 ⟨own_r1, NF351⟩ (by decide) (by decide)
  · refine g_iload D0 28 at_26 rfl rfl ?_
    refine g_ifY D0 46 at_28 (by decide) (by decide) (by decide) ?_
    refine g_iload D0 48 at_46 rfl rfl ?_
    refine g_iconst D0 49 (1 : Int32) at_48 rfl rfl ?_
    refine g_icmpY D0 62 at_49 (by decide) (by decide) (by decide) ?_
    refine g_iload D0 64 at_62 rfl rfl ?_
    refine g_iconst D0 65 (2 : Int32) at_64 rfl rfl ?_
    refine g_icmpN D0 68 at_65 (by decide) rfl ?_
    refine g_newO D0 71 (hw _ w_1) (hw _ w_2) (hw _ w_3) at_68 (by decide) (by decide) (fun _ E => D0.iv.ext E) rfl ?_
    intro T356 h356 a356 g356 E356 A356 N356 D356
    refine g_dup D356 72 at_71 rfl rfl ?_
    refine g_iconst D356 73 (2 : Int32) at_72 rfl rfl ?_
    refine g_newP D356 75 (aty := .char) (hw _ w_4) at_73 (by decide) (cap := 2) (by decide) (by decide) (by decide) (by decide) (fun _ E => D356.iv.ext E) rfl ?_
    intro T357 h357 a357 k357 g357 E357 V357 D357
    have V357' : Arv Z h357 a357 k357 .char (2 : Int32) [(.int (0 : Int32)), (.int (0 : Int32))] (.int (0 : Int32)) := V357.pad (pad_rep [] (.int (0 : Int32)) 2)
    refine g_dup D357 76 at_75 rfl rfl ?_
    refine g_iconst D357 77 (0 : Int32) at_76 rfl rfl ?_
    refine g_iload D357 79 at_77 rfl rfl ?_
    refine g_castore D357 80 V357' ⟨by decide, by decide⟩ 0 (by decide) (Nat.le_of_ble_eq_true rfl) (fun _ W => D357.iv.wr (Safe.arv D357.wm.alike V357' (by decide)) W) at_79 rfl ?_
    intro T358 h358 W358 V358 D358
    rw [nar16 H0] at V358
    replace V358 : Arv Z h358 a357 k357 .char (2 : Int32) [(.int c0), (.int (0 : Int32))] (.int (0 : Int32)) := V358
    have N358 := Fr.snoc D358.st (Fr.nil n0) (Nat.le_trans (Nat.le_trans Z0 E356.1) (Nat.le_of_eq g357.symm))
    refine g_dup D358 81 at_80 rfl rfl ?_
    refine g_iconst D358 82 (1 : Int32) at_81 rfl rfl ?_
    refine g_iload D358 84 at_82 rfl rfl ?_
    refine g_castore D358 85 V358 ⟨by decide, by decide⟩ 1 (by decide) (Nat.le_of_ble_eq_true rfl) (fun _ W => D358.iv.wr (Safe.arv D358.wm.alike V358 (by decide)) W) at_84 rfl ?_
    intro T359 h359 W359 V359 D359
    rw [nar16 H1] at V359
    replace V359 : Arv Z h359 a357 k357 .char (2 : Int32) [(.int c0), (.int c1)] (.int (0 : Int32)) := V359
    have N359 := Fr.snoc D359.st N358 (Nat.le_trans (Nat.le_trans Z0 E356.1) (Nat.le_of_eq g357.symm))
    refine g_callN D359 88 rfl (hw _ w_5) (hw _ w_6) (hw _ w_7) (by decide) ((cN1_2 l Z a0 hw [] a356 a357 k357 zc c0 c1 h359 n0 (Nat.le_trans (Nat.le_trans (Nat.le_trans (Nat.le_trans Z0 E356.1) E357.1) (Keep.of_wr W358).1) (Keep.of_wr W359).1) ((((OLD.ext E356).ext E357).wr W358 (Nat.le_trans (Nat.le_trans Z0 E356.1) (Nat.le_of_eq g357.symm))).wr W359 (Nat.le_trans (Nat.le_trans Z0 E356.1) (Nat.le_of_eq g357.symm))) SA SH SL CS hzc (((A356.ext E357).wr W358).wr W359) ((((N356 (Or.inr (hw _ w_17)) (ty := (.array .byte)) (by decide)).ext E357).other W358 (Or.inl (Nat.ne_of_lt (Nat.lt_of_lt_of_le A356.lt (Nat.le_of_eq g357.symm))))).other W359 (Or.inl (Nat.ne_of_lt (Nat.lt_of_lt_of_le A356.lt (Nat.le_of_eq g357.symm))))) ((((N356 (Or.inr (hw _ w_18)) (ty := .byte) (by decide)).ext E357).other W358 (Or.inl (Nat.ne_of_lt (Nat.lt_of_lt_of_le A356.lt (Nat.le_of_eq g357.symm))))).other W359 (Or.inl (Nat.ne_of_lt (Nat.lt_of_lt_of_le A356.lt (Nat.le_of_eq g357.symm))))) (Nat.le_trans Z0 (Nat.le_of_eq g356.symm)) V359 H0 H1).back D359 1 (hw _ w_7) (hw _ w_3) (by decide) (by decide)) rfl [(.ref a357)] rfl (lenOf pd_18 rfl) rfl (Nat.le_of_eq rfl) (by decide) (by decide) (fun _ _ _ q => D359.iv.keep (sfS (safe_null D359.wm.alike (((A356.ext E357).wr W358).wr W359) ((((N356 (Or.inr (hw _ w_17)) (ty := (.array .byte)) (by decide)).ext E357).other W358 (Or.inl (Nat.ne_of_lt (Nat.lt_of_lt_of_le A356.lt (Nat.le_of_eq g357.symm))))).other W359 (Or.inl (Nat.ne_of_lt (Nat.lt_of_lt_of_le A356.lt (Nat.le_of_eq g357.symm)))))) sf0) q.2.2.1) at_85 rfl ?_
    intro v360 T360 h360 L360 q360 D360
    obtain ⟨rfl, N360, K360, X360⟩ := q360
    have NF360 := Fr.app N359 N360
    show Go p e below _ (T360.setTop (mkF m 88 #[.val (.int len), .val (.int i1), .val (.int i2), .val (.int i3), .val (.int (2 : Int32)), .val (.int c0), .val (.int c1), .val (.int c2), .unset, .unset, .unset, .unset, .unset, .unset] [(.ref a356)]))
    have XX := X360
    refine g_astore D360 90 #[.val (.int len), .val (.int i1), .val (.int i2), .val (.int i3), .val (.int (2 : Int32)), .val (.int c0), .val (.int c1), .val (.int c2), .val (.ref a356), .unset, .unset, .unset, .unset, .unset] at_88 rfl rfl rfl ?_
    refine g_goto D360 120 at_90 (by decide) (by decide) ?_
    refine g_ldc2J D360 123 (hw _ w_23) at_120 rfl ?_
    refine g_lstore D360 125 #[.val (.int len), .val (.int i1), .val (.int i2), .val (.int i3), .val (.int (2 : Int32)), .val (.int c0), .val (.int c1), .val (.int c2), .val (.ref a356), .val (.long (-3750763034362895579 : Int64)), .second, .unset, .unset, .unset] at_123 rfl rfl ?_
    refine g_iload D360 127 at_125 rfl rfl ?_
    refine g_iconst D360 128 (1 : Int32) at_127 rfl rfl ?_
    refine g_icmpN D360 131 at_128 (by decide) rfl ?_
    refine g_lload D360 133 at_131 rfl rfl ?_
    refine g_iload D360 135 at_133 rfl rfl ?_
    refine g_callSp D360 138 (hw _ w_58) (hw _ w_59) (hw _ w_26) (hw _ w_60) (by decide) ((cFn l Z a0 hw [] (-3750763034362895579 : Int64) c0 h360 n0 (Nat.le_trans (Nat.le_trans (Nat.le_trans (Nat.le_trans (Nat.le_trans Z0 E356.1) E357.1) (Keep.of_wr W358).1) (Keep.of_wr W359).1) K360.1)).back D360 0 (hw _ w_60) (hw _ w_26) (by decide) (by decide)) rfl [(.long (-3750763034362895579 : Int64)), (.int c0)] rfl (lenOf pd_22 rfl) rfl (Nat.le_of_eq rfl) (by decide) (by decide) at_135 rfl ?_
    intro v361 T361 q361 D361
    subst q361
    show Go p e below _ (T361.setTop (mkF m 138 #[.val (.int len), .val (.int i1), .val (.int i2), .val (.int i3), .val (.int (2 : Int32)), .val (.int c0), .val (.int c1), .val (.int c2), .val (.ref a356), .val (.long (-3750763034362895579 : Int64)), .second, .unset, .unset, .unset] [(.long (own_st (-3750763034362895579 : Int64) c0))]))
    refine g_lstore D361 140 #[.val (.int len), .val (.int i1), .val (.int i2), .val (.int i3), .val (.int (2 : Int32)), .val (.int c0), .val (.int c1), .val (.int c2), .val (.ref a356), .val (.long (own_st (-3750763034362895579 : Int64) c0)), .second, .unset, .unset, .unset] at_138 rfl rfl ?_
    refine g_iload D361 142 at_140 rfl rfl ?_
    refine g_iconst D361 143 (2 : Int32) at_142 rfl rfl ?_
    refine g_icmpN D361 146 at_143 (by decide) rfl ?_
    refine g_lload D361 148 at_146 rfl rfl ?_
    refine g_iload D361 150 at_148 rfl rfl ?_
    refine g_callSp D361 153 (hw _ w_58) (hw _ w_59) (hw _ w_26) (hw _ w_60) (by decide) ((cFn l Z a0 hw [] (own_st (-3750763034362895579 : Int64) c0) c1 h360 n0 (Nat.le_trans (Nat.le_trans (Nat.le_trans (Nat.le_trans (Nat.le_trans Z0 E356.1) E357.1) (Keep.of_wr W358).1) (Keep.of_wr W359).1) K360.1)).back D361 0 (hw _ w_60) (hw _ w_26) (by decide) (by decide)) rfl [(.long (own_st (-3750763034362895579 : Int64) c0)), (.int c1)] rfl (lenOf pd_22 rfl) rfl (Nat.le_of_eq rfl) (by decide) (by decide) at_150 rfl ?_
    intro v362 T362 q362 D362
    subst q362
    show Go p e below _ (T362.setTop (mkF m 153 #[.val (.int len), .val (.int i1), .val (.int i2), .val (.int i3), .val (.int (2 : Int32)), .val (.int c0), .val (.int c1), .val (.int c2), .val (.ref a356), .val (.long (own_st (-3750763034362895579 : Int64) c0)), .second, .unset, .unset, .unset] [(.long (own_st (own_st (-3750763034362895579 : Int64) c0) c1))]))
    refine g_lstore D362 155 #[.val (.int len), .val (.int i1), .val (.int i2), .val (.int i3), .val (.int (2 : Int32)), .val (.int c0), .val (.int c1), .val (.int c2), .val (.ref a356), .val (.long (own_st (own_st (-3750763034362895579 : Int64) c0) c1)), .second, .unset, .unset, .unset] at_153 rfl rfl ?_
    refine g_iload D362 157 at_155 rfl rfl ?_
    refine g_iconst D362 158 (3 : Int32) at_157 rfl rfl ?_
    refine g_icmpY D362 170 at_158 (by decide) (by decide) (by decide) ?_
    refine g_lload D362 172 at_170 rfl rfl ?_
    refine g_callSp D362 175 (hw _ w_24) (hw _ w_25) (hw _ w_26) (hw _ w_27) (by decide) ((cMx l Z a0 hw [] (own_st (own_st (-3750763034362895579 : Int64) c0) c1) h360 n0 (Nat.le_trans (Nat.le_trans (Nat.le_trans (Nat.le_trans (Nat.le_trans Z0 E356.1) E357.1) (Keep.of_wr W358).1) (Keep.of_wr W359).1) K360.1)).back D362 0 (hw _ w_27) (hw _ w_26) (by decide) (by decide)) rfl [(.long (own_st (own_st (-3750763034362895579 : Int64) c0) c1))] rfl (lenOf pd_19 rfl) rfl (Nat.le_of_eq rfl) (by decide) (by decide) at_172 rfl ?_
    intro v363 T363 q363 D363
    subst q363
    show Go p e below _ (T363.setTop (mkF m 175 #[.val (.int len), .val (.int i1), .val (.int i2), .val (.int i3), .val (.int (2 : Int32)), .val (.int c0), .val (.int c1), .val (.int c2), .val (.ref a356), .val (.long (own_st (own_st (-3750763034362895579 : Int64) c0) c1)), .second, .unset, .unset, .unset] [(.long (own_mx (own_st (own_st (-3750763034362895579 : Int64) c0) c1)))]))
    refine g_l2i D363 176 at_175 rfl ?_
    refine g_istore D363 178 #[.val (.int len), .val (.int i1), .val (.int i2), .val (.int i3), .val (.int (2 : Int32)), .val (.int c0), .val (.int c1), .val (.int c2), .val (.ref a356), .val (.long (own_st (own_st (-3750763034362895579 : Int64) c0) c1)), .second, .val (.int ((own_mx (own_st (own_st (-3750763034362895579 : Int64) c0) c1)).toInt32)), .unset, .unset] at_176 rfl rfl ?_
    refine g_iload D363 180 at_178 rfl rfl ?_
    by_cases z0 : ((own_mx (own_st (own_st (-3750763034362895579 : Int64) c0) c1)).toInt32) = (0 : Int32)
    · refine g_ifN D363 183 at_180 (teq z0).2 rfl ?_
      refine g_iconst D363 184 (1 : Int32) at_183 rfl rfl ?_
      refine g_goto D363 189 at_184 (by decide) (by decide) ?_
      refine g_istore D363 191 #[.val (.int len), .val (.int i1), .val (.int i2), .val (.int i3), .val (.int (2 : Int32)), .val (.int c0), .val (.int c1), .val (.int c2), .val (.ref a356), .val (.long (own_st (own_st (-3750763034362895579 : Int64) c0) c1)), .second, .val (.int ((own_mx (own_st (own_st (-3750763034362895579 : Int64) c0) c1)).toInt32)), .val (.int (1 : Int32)), .unset] at_189 rfl rfl ?_
      refine g_aload D363 193 at_191 rfl rfl rfl ?_
      refine g_callSp D363 196 (hw _ w_30) (hw _ w_31) (hw _ w_32) (hw _ w_33) (by decide) ((cHa_2 l Z a0 hw [] a356 zc fm c0 c1 h360 n0 (Nat.le_trans (Nat.le_trans (Nat.le_trans (Nat.le_trans (Nat.le_trans Z0 E356.1) E357.1) (Keep.of_wr W358).1) (Keep.of_wr W359).1) K360.1) (((((OLD.ext E356).ext E357).wr W358 (Nat.le_trans (Nat.le_trans Z0 E356.1) (Nat.le_of_eq g357.symm))).wr W359 (Nat.le_trans (Nat.le_trans Z0 E356.1) (Nat.le_of_eq g357.symm))).keep K360 (allS (Nat.le_trans Z0 (Nat.le_of_eq g356.symm)) all0)) SA SH SL CS hzc SFm rfm XX).back D363 0 (hw _ w_33) (hw _ w_32) (by decide) (by decide)) rfl [(.ref a356)] rfl (lenOf pd_20 rfl) rfl (Nat.le_of_eq rfl) (by decide) (by decide) at_193 rfl ?_
      intro v364 T364 q364 D364
      subst q364
      show Go p e below _ (T364.setTop (mkF m 196 #[.val (.int len), .val (.int i1), .val (.int i2), .val (.int i3), .val (.int (2 : Int32)), .val (.int c0), .val (.int c1), .val (.int c2), .val (.ref a356), .val (.long (own_st (own_st (-3750763034362895579 : Int64) c0) c1)), .second, .val (.int ((own_mx (own_st (own_st (-3750763034362895579 : Int64) c0) c1)).toInt32)), .val (.int (1 : Int32)), .unset] [(.int (own_ex (own_st (own_st (-3750763034362895579 : Int64) c0) c1)))]))
      rw [show own_ex (own_st (own_st (-3750763034362895579 : Int64) c0) c1) = (1 : Int32) from if_pos z0]
      refine g_istore D364 198 #[.val (.int len), .val (.int i1), .val (.int i2), .val (.int i3), .val (.int (2 : Int32)), .val (.int c0), .val (.int c1), .val (.int c2), .val (.ref a356), .val (.long (own_st (own_st (-3750763034362895579 : Int64) c0) c1)), .second, .val (.int ((own_mx (own_st (own_st (-3750763034362895579 : Int64) c0) c1)).toInt32)), .val (.int (1 : Int32)), .val (.int (1 : Int32))] at_196 rfl rfl ?_
      refine g_iload D364 200 at_198 rfl rfl ?_
      refine g_iload D364 202 at_200 rfl rfl ?_
      refine g_icmpN D364 205 at_202 (by decide) rfl ?_
      refine g_iload D364 207 at_205 rfl rfl ?_
      refine g_ifN D364 210 at_207 (by decide) rfl ?_
      refine g_iconst D364 211 (1 : Int32) at_210 rfl rfl ?_
      refine g_goto D364 215 at_211 (by decide) (by decide) ?_
      exact r_Nw D364 hEW hret (by simp) hlk at_215 ⟨own_r1, NF360⟩ (by decide) (by decide)
    · refine g_ifY D363 187 at_180 (feq z0).2 (by decide) (by decide) ?_
      refine g_iload D363 189 at_187 rfl rfl ?_
      refine g_istore D363 191 #[.val (.int len), .val (.int i1), .val (.int i2), .val (.int i3), .val (.int (2 : Int32)), .val (.int c0), .val (.int c1), .val (.int c2), .val (.ref a356), .val (.long (own_st (own_st (-3750763034362895579 : Int64) c0) c1)), .second, .val (.int ((own_mx (own_st (own_st (-3750763034362895579 : Int64) c0) c1)).toInt32)), .val (.int ((own_mx (own_st (own_st (-3750763034362895579 : Int64) c0) c1)).toInt32)), .unset] at_189 rfl rfl ?_
      refine g_aload D363 193 at_191 rfl rfl rfl ?_
      refine g_callSp D363 196 (hw _ w_30) (hw _ w_31) (hw _ w_32) (hw _ w_33) (by decide) ((cHa_2 l Z a0 hw [] a356 zc fm c0 c1 h360 n0 (Nat.le_trans (Nat.le_trans (Nat.le_trans (Nat.le_trans (Nat.le_trans Z0 E356.1) E357.1) (Keep.of_wr W358).1) (Keep.of_wr W359).1) K360.1) (((((OLD.ext E356).ext E357).wr W358 (Nat.le_trans (Nat.le_trans Z0 E356.1) (Nat.le_of_eq g357.symm))).wr W359 (Nat.le_trans (Nat.le_trans Z0 E356.1) (Nat.le_of_eq g357.symm))).keep K360 (allS (Nat.le_trans Z0 (Nat.le_of_eq g356.symm)) all0)) SA SH SL CS hzc SFm rfm XX).back D363 0 (hw _ w_33) (hw _ w_32) (by decide) (by decide)) rfl [(.ref a356)] rfl (lenOf pd_20 rfl) rfl (Nat.le_of_eq rfl) (by decide) (by decide) at_193 rfl ?_
      intro v365 T365 q365 D365
      subst q365
      show Go p e below _ (T365.setTop (mkF m 196 #[.val (.int len), .val (.int i1), .val (.int i2), .val (.int i3), .val (.int (2 : Int32)), .val (.int c0), .val (.int c1), .val (.int c2), .val (.ref a356), .val (.long (own_st (own_st (-3750763034362895579 : Int64) c0) c1)), .second, .val (.int ((own_mx (own_st (own_st (-3750763034362895579 : Int64) c0) c1)).toInt32)), .val (.int ((own_mx (own_st (own_st (-3750763034362895579 : Int64) c0) c1)).toInt32)), .unset] [(.int (own_ex (own_st (own_st (-3750763034362895579 : Int64) c0) c1)))]))
      rw [show own_ex (own_st (own_st (-3750763034362895579 : Int64) c0) c1) = ((own_mx (own_st (own_st (-3750763034362895579 : Int64) c0) c1)).toInt32) from if_neg z0]
      refine g_istore D365 198 #[.val (.int len), .val (.int i1), .val (.int i2), .val (.int i3), .val (.int (2 : Int32)), .val (.int c0), .val (.int c1), .val (.int c2), .val (.ref a356), .val (.long (own_st (own_st (-3750763034362895579 : Int64) c0) c1)), .second, .val (.int ((own_mx (own_st (own_st (-3750763034362895579 : Int64) c0) c1)).toInt32)), .val (.int ((own_mx (own_st (own_st (-3750763034362895579 : Int64) c0) c1)).toInt32)), .val (.int ((own_mx (own_st (own_st (-3750763034362895579 : Int64) c0) c1)).toInt32))] at_196 rfl rfl ?_
      refine g_iload D365 200 at_198 rfl rfl ?_
      refine g_iload D365 202 at_200 rfl rfl ?_
      refine g_icmpN D365 205 at_202 (teq rfl).2 rfl ?_
      refine g_iload D365 207 at_205 rfl rfl ?_
      refine g_ifN D365 210 at_207 (feq z0).1 rfl ?_
      refine g_iconst D365 211 (1 : Int32) at_210 rfl rfl ?_
      refine g_goto D365 215 at_211 (by decide) (by decide) ?_
      exact r_Nw D365 hEW hret (by simp) hlk at_215 ⟨own_r1, NF360⟩ (by decide) (by decide)
  · refine g_iload D0 28 at_26 rfl rfl ?_
    refine g_ifY D0 46 at_28 (by decide) (by decide) (by decide) ?_
    refine g_iload D0 48 at_46 rfl rfl ?_
    refine g_iconst D0 49 (1 : Int32) at_48 rfl rfl ?_
    refine g_icmpY D0 62 at_49 (by decide) (by decide) (by decide) ?_
    refine g_iload D0 64 at_62 rfl rfl ?_
    refine g_iconst D0 65 (2 : Int32) at_64 rfl rfl ?_
    refine g_icmpY D0 93 at_65 (by decide) (by decide) (by decide) ?_
    refine g_newO D0 96 (hw _ w_1) (hw _ w_2) (hw _ w_3) at_93 (by decide) (by decide) (fun _ E => D0.iv.ext E) rfl ?_
    intro T366 h366 a366 g366 E366 A366 N366 D366
    refine g_dup D366 97 at_96 rfl rfl ?_
    refine g_iconst D366 98 (3 : Int32) at_97 rfl rfl ?_
    refine g_newP D366 100 (aty := .char) (hw _ w_4) at_98 (by decide) (cap := 3) (by decide) (by decide) (by decide) (by decide) (fun _ E => D366.iv.ext E) rfl ?_
    intro T367 h367 a367 k367 g367 E367 V367 D367
    have V367' : Arv Z h367 a367 k367 .char (3 : Int32) [(.int (0 : Int32)), (.int (0 : Int32)), (.int (0 : Int32))] (.int (0 : Int32)) := V367.pad (pad_rep [] (.int (0 : Int32)) 3)
    refine g_dup D367 101 at_100 rfl rfl ?_
    refine g_iconst D367 102 (0 : Int32) at_101 rfl rfl ?_
    refine g_iload D367 104 at_102 rfl rfl ?_
    refine g_castore D367 105 V367' ⟨by decide, by decide⟩ 0 (by decide) (Nat.le_of_ble_eq_true rfl) (fun _ W => D367.iv.wr (Safe.arv D367.wm.alike V367' (by decide)) W) at_104 rfl ?_
    intro T368 h368 W368 V368 D368
    rw [nar16 H0] at V368
    replace V368 : Arv Z h368 a367 k367 .char (3 : Int32) [(.int c0), (.int (0 : Int32)), (.int (0 : Int32))] (.int (0 : Int32)) := V368
    have N368 := Fr.snoc D368.st (Fr.nil n0) (Nat.le_trans (Nat.le_trans Z0 E366.1) (Nat.le_of_eq g367.symm))
    refine g_dup D368 106 at_105 rfl rfl ?_
    refine g_iconst D368 107 (1 : Int32) at_106 rfl rfl ?_
    refine g_iload D368 109 at_107 rfl rfl ?_
    refine g_castore D368 110 V368 ⟨by decide, by decide⟩ 1 (by decide) (Nat.le_of_ble_eq_true rfl) (fun _ W => D368.iv.wr (Safe.arv D368.wm.alike V368 (by decide)) W) at_109 rfl ?_
    intro T369 h369 W369 V369 D369
    rw [nar16 H1] at V369
    replace V369 : Arv Z h369 a367 k367 .char (3 : Int32) [(.int c0), (.int c1), (.int (0 : Int32))] (.int (0 : Int32)) := V369
    have N369 := Fr.snoc D369.st N368 (Nat.le_trans (Nat.le_trans Z0 E366.1) (Nat.le_of_eq g367.symm))
    refine g_dup D369 111 at_110 rfl rfl ?_
    refine g_iconst D369 112 (2 : Int32) at_111 rfl rfl ?_
    refine g_iload D369 114 at_112 rfl rfl ?_
    refine g_castore D369 115 V369 ⟨by decide, by decide⟩ 2 (by decide) (Nat.le_of_ble_eq_true rfl) (fun _ W => D369.iv.wr (Safe.arv D369.wm.alike V369 (by decide)) W) at_114 rfl ?_
    intro T370 h370 W370 V370 D370
    rw [nar16 H2] at V370
    replace V370 : Arv Z h370 a367 k367 .char (3 : Int32) [(.int c0), (.int c1), (.int c2)] (.int (0 : Int32)) := V370
    have N370 := Fr.snoc D370.st N369 (Nat.le_trans (Nat.le_trans Z0 E366.1) (Nat.le_of_eq g367.symm))
    refine g_callN D370 118 rfl (hw _ w_5) (hw _ w_6) (hw _ w_7) (by decide) ((cN1_3 l Z a0 hw [] a366 a367 k367 zc c0 c1 c2 h370 n0 (Nat.le_trans (Nat.le_trans (Nat.le_trans (Nat.le_trans (Nat.le_trans Z0 E366.1) E367.1) (Keep.of_wr W368).1) (Keep.of_wr W369).1) (Keep.of_wr W370).1) (((((OLD.ext E366).ext E367).wr W368 (Nat.le_trans (Nat.le_trans Z0 E366.1) (Nat.le_of_eq g367.symm))).wr W369 (Nat.le_trans (Nat.le_trans Z0 E366.1) (Nat.le_of_eq g367.symm))).wr W370 (Nat.le_trans (Nat.le_trans Z0 E366.1) (Nat.le_of_eq g367.symm))) SA SH SL CS hzc ((((A366.ext E367).wr W368).wr W369).wr W370) (((((N366 (Or.inr (hw _ w_17)) (ty := (.array .byte)) (by decide)).ext E367).other W368 (Or.inl (Nat.ne_of_lt (Nat.lt_of_lt_of_le A366.lt (Nat.le_of_eq g367.symm))))).other W369 (Or.inl (Nat.ne_of_lt (Nat.lt_of_lt_of_le A366.lt (Nat.le_of_eq g367.symm))))).other W370 (Or.inl (Nat.ne_of_lt (Nat.lt_of_lt_of_le A366.lt (Nat.le_of_eq g367.symm))))) (((((N366 (Or.inr (hw _ w_18)) (ty := .byte) (by decide)).ext E367).other W368 (Or.inl (Nat.ne_of_lt (Nat.lt_of_lt_of_le A366.lt (Nat.le_of_eq g367.symm))))).other W369 (Or.inl (Nat.ne_of_lt (Nat.lt_of_lt_of_le A366.lt (Nat.le_of_eq g367.symm))))).other W370 (Or.inl (Nat.ne_of_lt (Nat.lt_of_lt_of_le A366.lt (Nat.le_of_eq g367.symm))))) (Nat.le_trans Z0 (Nat.le_of_eq g366.symm)) V370 H0 H1 H2).back D370 1 (hw _ w_7) (hw _ w_3) (by decide) (by decide)) rfl [(.ref a367)] rfl (lenOf pd_18 rfl) rfl (Nat.le_of_eq rfl) (by decide) (by decide) (fun _ _ _ q => D370.iv.keep (sfS (safe_null D370.wm.alike ((((A366.ext E367).wr W368).wr W369).wr W370) (((((N366 (Or.inr (hw _ w_17)) (ty := (.array .byte)) (by decide)).ext E367).other W368 (Or.inl (Nat.ne_of_lt (Nat.lt_of_lt_of_le A366.lt (Nat.le_of_eq g367.symm))))).other W369 (Or.inl (Nat.ne_of_lt (Nat.lt_of_lt_of_le A366.lt (Nat.le_of_eq g367.symm))))).other W370 (Or.inl (Nat.ne_of_lt (Nat.lt_of_lt_of_le A366.lt (Nat.le_of_eq g367.symm)))))) sf0) q.2.2.1) at_115 rfl ?_
    intro v371 T371 h371 L371 q371 D371
    obtain ⟨rfl, N371, K371, X371⟩ := q371
    have NF371 := Fr.app N370 N371
    show Go p e below _ (T371.setTop (mkF m 118 #[.val (.int len), .val (.int i1), .val (.int i2), .val (.int i3), .val (.int (3 : Int32)), .val (.int c0), .val (.int c1), .val (.int c2), .unset, .unset, .unset, .unset, .unset, .unset] [(.ref a366)]))
    have XX := X371
    refine g_astore D371 120 #[.val (.int len), .val (.int i1), .val (.int i2), .val (.int i3), .val (.int (3 : Int32)), .val (.int c0), .val (.int c1), .val (.int c2), .val (.ref a366), .unset, .unset, .unset, .unset, .unset] at_118 rfl rfl rfl ?_
    refine g_ldc2J D371 123 (hw _ w_23) at_120 rfl ?_
    refine g_lstore D371 125 #[.val (.int len), .val (.int i1), .val (.int i2), .val (.int i3), .val (.int (3 : Int32)), .val (.int c0), .val (.int c1), .val (.int c2), .val (.ref a366), .val (.long (-3750763034362895579 : Int64)), .second, .unset, .unset, .unset] at_123 rfl rfl ?_
    refine g_iload D371 127 at_125 rfl rfl ?_
    refine g_iconst D371 128 (1 : Int32) at_127 rfl rfl ?_
    refine g_icmpN D371 131 at_128 (by decide) rfl ?_
    refine g_lload D371 133 at_131 rfl rfl ?_
    refine g_iload D371 135 at_133 rfl rfl ?_
    refine g_callSp D371 138 (hw _ w_58) (hw _ w_59) (hw _ w_26) (hw _ w_60) (by decide) ((cFn l Z a0 hw [] (-3750763034362895579 : Int64) c0 h371 n0 (Nat.le_trans (Nat.le_trans (Nat.le_trans (Nat.le_trans (Nat.le_trans (Nat.le_trans Z0 E366.1) E367.1) (Keep.of_wr W368).1) (Keep.of_wr W369).1) (Keep.of_wr W370).1) K371.1)).back D371 0 (hw _ w_60) (hw _ w_26) (by decide) (by decide)) rfl [(.long (-3750763034362895579 : Int64)), (.int c0)] rfl (lenOf pd_22 rfl) rfl (Nat.le_of_eq rfl) (by decide) (by decide) at_135 rfl ?_
    intro v372 T372 q372 D372
    subst q372
    show Go p e below _ (T372.setTop (mkF m 138 #[.val (.int len), .val (.int i1), .val (.int i2), .val (.int i3), .val (.int (3 : Int32)), .val (.int c0), .val (.int c1), .val (.int c2), .val (.ref a366), .val (.long (-3750763034362895579 : Int64)), .second, .unset, .unset, .unset] [(.long (own_st (-3750763034362895579 : Int64) c0))]))
    refine g_lstore D372 140 #[.val (.int len), .val (.int i1), .val (.int i2), .val (.int i3), .val (.int (3 : Int32)), .val (.int c0), .val (.int c1), .val (.int c2), .val (.ref a366), .val (.long (own_st (-3750763034362895579 : Int64) c0)), .second, .unset, .unset, .unset] at_138 rfl rfl ?_
    refine g_iload D372 142 at_140 rfl rfl ?_
    refine g_iconst D372 143 (2 : Int32) at_142 rfl rfl ?_
    refine g_icmpN D372 146 at_143 (by decide) rfl ?_
    refine g_lload D372 148 at_146 rfl rfl ?_
    refine g_iload D372 150 at_148 rfl rfl ?_
    refine g_callSp D372 153 (hw _ w_58) (hw _ w_59) (hw _ w_26) (hw _ w_60) (by decide) ((cFn l Z a0 hw [] (own_st (-3750763034362895579 : Int64) c0) c1 h371 n0 (Nat.le_trans (Nat.le_trans (Nat.le_trans (Nat.le_trans (Nat.le_trans (Nat.le_trans Z0 E366.1) E367.1) (Keep.of_wr W368).1) (Keep.of_wr W369).1) (Keep.of_wr W370).1) K371.1)).back D372 0 (hw _ w_60) (hw _ w_26) (by decide) (by decide)) rfl [(.long (own_st (-3750763034362895579 : Int64) c0)), (.int c1)] rfl (lenOf pd_22 rfl) rfl (Nat.le_of_eq rfl) (by decide) (by decide) at_150 rfl ?_
    intro v373 T373 q373 D373
    subst q373
    show Go p e below _ (T373.setTop (mkF m 153 #[.val (.int len), .val (.int i1), .val (.int i2), .val (.int i3), .val (.int (3 : Int32)), .val (.int c0), .val (.int c1), .val (.int c2), .val (.ref a366), .val (.long (own_st (-3750763034362895579 : Int64) c0)), .second, .unset, .unset, .unset] [(.long (own_st (own_st (-3750763034362895579 : Int64) c0) c1))]))
    refine g_lstore D373 155 #[.val (.int len), .val (.int i1), .val (.int i2), .val (.int i3), .val (.int (3 : Int32)), .val (.int c0), .val (.int c1), .val (.int c2), .val (.ref a366), .val (.long (own_st (own_st (-3750763034362895579 : Int64) c0) c1)), .second, .unset, .unset, .unset] at_153 rfl rfl ?_
    refine g_iload D373 157 at_155 rfl rfl ?_
    refine g_iconst D373 158 (3 : Int32) at_157 rfl rfl ?_
    refine g_icmpN D373 161 at_158 (by decide) rfl ?_
    refine g_lload D373 163 at_161 rfl rfl ?_
    refine g_iload D373 165 at_163 rfl rfl ?_
    refine g_callSp D373 168 (hw _ w_58) (hw _ w_59) (hw _ w_26) (hw _ w_60) (by decide) ((cFn l Z a0 hw [] (own_st (own_st (-3750763034362895579 : Int64) c0) c1) c2 h371 n0 (Nat.le_trans (Nat.le_trans (Nat.le_trans (Nat.le_trans (Nat.le_trans (Nat.le_trans Z0 E366.1) E367.1) (Keep.of_wr W368).1) (Keep.of_wr W369).1) (Keep.of_wr W370).1) K371.1)).back D373 0 (hw _ w_60) (hw _ w_26) (by decide) (by decide)) rfl [(.long (own_st (own_st (-3750763034362895579 : Int64) c0) c1)), (.int c2)] rfl (lenOf pd_22 rfl) rfl (Nat.le_of_eq rfl) (by decide) (by decide) at_165 rfl ?_
    intro v374 T374 q374 D374
    subst q374
    show Go p e below _ (T374.setTop (mkF m 168 #[.val (.int len), .val (.int i1), .val (.int i2), .val (.int i3), .val (.int (3 : Int32)), .val (.int c0), .val (.int c1), .val (.int c2), .val (.ref a366), .val (.long (own_st (own_st (-3750763034362895579 : Int64) c0) c1)), .second, .unset, .unset, .unset] [(.long (own_st (own_st (own_st (-3750763034362895579 : Int64) c0) c1) c2))]))
    refine g_lstore D374 170 #[.val (.int len), .val (.int i1), .val (.int i2), .val (.int i3), .val (.int (3 : Int32)), .val (.int c0), .val (.int c1), .val (.int c2), .val (.ref a366), .val (.long (own_st (own_st (own_st (-3750763034362895579 : Int64) c0) c1) c2)), .second, .unset, .unset, .unset] at_168 rfl rfl ?_
    refine g_lload D374 172 at_170 rfl rfl ?_
    refine g_callSp D374 175 (hw _ w_24) (hw _ w_25) (hw _ w_26) (hw _ w_27) (by decide) ((cMx l Z a0 hw [] (own_st (own_st (own_st (-3750763034362895579 : Int64) c0) c1) c2) h371 n0 (Nat.le_trans (Nat.le_trans (Nat.le_trans (Nat.le_trans (Nat.le_trans (Nat.le_trans Z0 E366.1) E367.1) (Keep.of_wr W368).1) (Keep.of_wr W369).1) (Keep.of_wr W370).1) K371.1)).back D374 0 (hw _ w_27) (hw _ w_26) (by decide) (by decide)) rfl [(.long (own_st (own_st (own_st (-3750763034362895579 : Int64) c0) c1) c2))] rfl (lenOf pd_19 rfl) rfl (Nat.le_of_eq rfl) (by decide) (by decide) at_172 rfl ?_
    intro v375 T375 q375 D375
    subst q375
    show Go p e below _ (T375.setTop (mkF m 175 #[.val (.int len), .val (.int i1), .val (.int i2), .val (.int i3), .val (.int (3 : Int32)), .val (.int c0), .val (.int c1), .val (.int c2), .val (.ref a366), .val (.long (own_st (own_st (own_st (-3750763034362895579 : Int64) c0) c1) c2)), .second, .unset, .unset, .unset] [(.long (own_mx (own_st (own_st (own_st (-3750763034362895579 : Int64) c0) c1) c2)))]))
    refine g_l2i D375 176 at_175 rfl ?_
    refine g_istore D375 178 #[.val (.int len), .val (.int i1), .val (.int i2), .val (.int i3), .val (.int (3 : Int32)), .val (.int c0), .val (.int c1), .val (.int c2), .val (.ref a366), .val (.long (own_st (own_st (own_st (-3750763034362895579 : Int64) c0) c1) c2)), .second, .val (.int ((own_mx (own_st (own_st (own_st (-3750763034362895579 : Int64) c0) c1) c2)).toInt32)), .unset, .unset] at_176 rfl rfl ?_
    refine g_iload D375 180 at_178 rfl rfl ?_
    by_cases z0 : ((own_mx (own_st (own_st (own_st (-3750763034362895579 : Int64) c0) c1) c2)).toInt32) = (0 : Int32)
    · refine g_ifN D375 183 at_180 (teq z0).2 rfl ?_
      refine g_iconst D375 184 (1 : Int32) at_183 rfl rfl ?_
      refine g_goto D375 189 at_184 (by decide) (by decide) ?_
      refine g_istore D375 191 #[.val (.int len), .val (.int i1), .val (.int i2), .val (.int i3), .val (.int (3 : Int32)), .val (.int c0), .val (.int c1), .val (.int c2), .val (.ref a366), .val (.long (own_st (own_st (own_st (-3750763034362895579 : Int64) c0) c1) c2)), .second, .val (.int ((own_mx (own_st (own_st (own_st (-3750763034362895579 : Int64) c0) c1) c2)).toInt32)), .val (.int (1 : Int32)), .unset] at_189 rfl rfl ?_
      refine g_aload D375 193 at_191 rfl rfl rfl ?_
      refine g_callSp D375 196 (hw _ w_30) (hw _ w_31) (hw _ w_32) (hw _ w_33) (by decide) ((cHa_3 l Z a0 hw [] a366 zc fm c0 c1 c2 h371 n0 (Nat.le_trans (Nat.le_trans (Nat.le_trans (Nat.le_trans (Nat.le_trans (Nat.le_trans Z0 E366.1) E367.1) (Keep.of_wr W368).1) (Keep.of_wr W369).1) (Keep.of_wr W370).1) K371.1) ((((((OLD.ext E366).ext E367).wr W368 (Nat.le_trans (Nat.le_trans Z0 E366.1) (Nat.le_of_eq g367.symm))).wr W369 (Nat.le_trans (Nat.le_trans Z0 E366.1) (Nat.le_of_eq g367.symm))).wr W370 (Nat.le_trans (Nat.le_trans Z0 E366.1) (Nat.le_of_eq g367.symm))).keep K371 (allS (Nat.le_trans Z0 (Nat.le_of_eq g366.symm)) all0)) SA SH SL CS hzc SFm rfm XX).back D375 0 (hw _ w_33) (hw _ w_32) (by decide) (by decide)) rfl [(.ref a366)] rfl (lenOf pd_20 rfl) rfl (Nat.le_of_eq rfl) (by decide) (by decide) at_193 rfl ?_
      intro v376 T376 q376 D376
      subst q376
      show Go p e below _ (T376.setTop (mkF m 196 #[.val (.int len), .val (.int i1), .val (.int i2), .val (.int i3), .val (.int (3 : Int32)), .val (.int c0), .val (.int c1), .val (.int c2), .val (.ref a366), .val (.long (own_st (own_st (own_st (-3750763034362895579 : Int64) c0) c1) c2)), .second, .val (.int ((own_mx (own_st (own_st (own_st (-3750763034362895579 : Int64) c0) c1) c2)).toInt32)), .val (.int (1 : Int32)), .unset] [(.int (own_ex (own_st (own_st (own_st (-3750763034362895579 : Int64) c0) c1) c2)))]))
      rw [show own_ex (own_st (own_st (own_st (-3750763034362895579 : Int64) c0) c1) c2) = (1 : Int32) from if_pos z0]
      refine g_istore D376 198 #[.val (.int len), .val (.int i1), .val (.int i2), .val (.int i3), .val (.int (3 : Int32)), .val (.int c0), .val (.int c1), .val (.int c2), .val (.ref a366), .val (.long (own_st (own_st (own_st (-3750763034362895579 : Int64) c0) c1) c2)), .second, .val (.int ((own_mx (own_st (own_st (own_st (-3750763034362895579 : Int64) c0) c1) c2)).toInt32)), .val (.int (1 : Int32)), .val (.int (1 : Int32))] at_196 rfl rfl ?_
      refine g_iload D376 200 at_198 rfl rfl ?_
      refine g_iload D376 202 at_200 rfl rfl ?_
      refine g_icmpN D376 205 at_202 (by decide) rfl ?_
      refine g_iload D376 207 at_205 rfl rfl ?_
      refine g_ifN D376 210 at_207 (by decide) rfl ?_
      refine g_iconst D376 211 (1 : Int32) at_210 rfl rfl ?_
      refine g_goto D376 215 at_211 (by decide) (by decide) ?_
      exact r_Nw D376 hEW hret (by simp) hlk at_215 ⟨own_r1, NF371⟩ (by decide) (by decide)
    · refine g_ifY D375 187 at_180 (feq z0).2 (by decide) (by decide) ?_
      refine g_iload D375 189 at_187 rfl rfl ?_
      refine g_istore D375 191 #[.val (.int len), .val (.int i1), .val (.int i2), .val (.int i3), .val (.int (3 : Int32)), .val (.int c0), .val (.int c1), .val (.int c2), .val (.ref a366), .val (.long (own_st (own_st (own_st (-3750763034362895579 : Int64) c0) c1) c2)), .second, .val (.int ((own_mx (own_st (own_st (own_st (-3750763034362895579 : Int64) c0) c1) c2)).toInt32)), .val (.int ((own_mx (own_st (own_st (own_st (-3750763034362895579 : Int64) c0) c1) c2)).toInt32)), .unset] at_189 rfl rfl ?_
      refine g_aload D375 193 at_191 rfl rfl rfl ?_
      refine g_callSp D375 196 (hw _ w_30) (hw _ w_31) (hw _ w_32) (hw _ w_33) (by decide) ((cHa_3 l Z a0 hw [] a366 zc fm c0 c1 c2 h371 n0 (Nat.le_trans (Nat.le_trans (Nat.le_trans (Nat.le_trans (Nat.le_trans (Nat.le_trans Z0 E366.1) E367.1) (Keep.of_wr W368).1) (Keep.of_wr W369).1) (Keep.of_wr W370).1) K371.1) ((((((OLD.ext E366).ext E367).wr W368 (Nat.le_trans (Nat.le_trans Z0 E366.1) (Nat.le_of_eq g367.symm))).wr W369 (Nat.le_trans (Nat.le_trans Z0 E366.1) (Nat.le_of_eq g367.symm))).wr W370 (Nat.le_trans (Nat.le_trans Z0 E366.1) (Nat.le_of_eq g367.symm))).keep K371 (allS (Nat.le_trans Z0 (Nat.le_of_eq g366.symm)) all0)) SA SH SL CS hzc SFm rfm XX).back D375 0 (hw _ w_33) (hw _ w_32) (by decide) (by decide)) rfl [(.ref a366)] rfl (lenOf pd_20 rfl) rfl (Nat.le_of_eq rfl) (by decide) (by decide) at_193 rfl ?_
      intro v377 T377 q377 D377
      subst q377
      show Go p e below _ (T377.setTop (mkF m 196 #[.val (.int len), .val (.int i1), .val (.int i2), .val (.int i3), .val (.int (3 : Int32)), .val (.int c0), .val (.int c1), .val (.int c2), .val (.ref a366), .val (.long (own_st (own_st (own_st (-3750763034362895579 : Int64) c0) c1) c2)), .second, .val (.int ((own_mx (own_st (own_st (own_st (-3750763034362895579 : Int64) c0) c1) c2)).toInt32)), .val (.int ((own_mx (own_st (own_st (own_st (-3750763034362895579 : Int64) c0) c1) c2)).toInt32)), .unset] [(.int (own_ex (own_st (own_st (own_st (-3750763034362895579 : Int64) c0) c1) c2)))]))
      rw [show own_ex (own_st (own_st (own_st (-3750763034362895579 : Int64) c0) c1) c2) = ((own_mx (own_st (own_st (own_st (-3750763034362895579 : Int64) c0) c1) c2)).toInt32) from if_neg z0]
      refine g_istore D377 198 #[.val (.int len), .val (.int i1), .val (.int i2), .val (.int i3), .val (.int (3 : Int32)), .val (.int c0), .val (.int c1), .val (.int c2), .val (.ref a366), .val (.long (own_st (own_st (own_st (-3750763034362895579 : Int64) c0) c1) c2)), .second, .val (.int ((own_mx (own_st (own_st (own_st (-3750763034362895579 : Int64) c0) c1) c2)).toInt32)), .val (.int ((own_mx (own_st (own_st (own_st (-3750763034362895579 : Int64) c0) c1) c2)).toInt32)), .val (.int ((own_mx (own_st (own_st (own_st (-3750763034362895579 : Int64) c0) c1) c2)).toInt32))] at_196 rfl rfl ?_
      refine g_iload D377 200 at_198 rfl rfl ?_
      refine g_iload D377 202 at_200 rfl rfl ?_
      refine g_icmpN D377 205 at_202 (teq rfl).2 rfl ?_
      refine g_iload D377 207 at_205 rfl rfl ?_
      refine g_ifN D377 210 at_207 (feq z0).1 rfl ?_
      refine g_iconst D377 211 (1 : Int32) at_210 rfl rfl ?_
      refine g_goto D377 215 at_211 (by decide) (by decide) ?_
      exact r_Nw D377 hEW hret (by simp) hlk at_215 ⟨own_r1, NF371⟩ (by decide) (by decide)
set_option maxRecDepth 65536 in
set_option maxHeartbeats 40000000 in
theorem comes_1 {Post : Tables → Env → Array Value → State → Outcome → State → Prop} (hpost : ∀ tb e args s v u, (limb_1_1.after args s (.returned v) u = true ∧ limb_1_2.after args s (.returned v) u = true ∧ True) → ReturnedEndW s (.returned v) u (Jvm.fieldLocs frame_1_writes args s ++ Jvm.arrayLocs frame_1_arrays args s ++ Jvm.staticLocs frame_1_statics s) 24 1152 → Post tb e args s (.returned v) u) :
    ArmFor flags0 classFile x code maxLocals ret World_1 tables_1 room_1 Calls_1 rest_1 Pre_1 Post := by
  intro l hfl _ _ p e ha hc hk s m args below hf hA hF happ hP
  obtain ⟨hcalls, hrest, hpre⟩ := hP
  obtain ⟨-, -, -, hnamed, -, -, -, hat⟩ := (Spec.applies_iff hf).mp happ
  obtain ⟨hg, hn⟩ := and_e (Cond.before_iff.mp (show (Jvm.Cond.and given_1 narrow_1).before args s = true from hpre))
  obtain ⟨g1, gr1⟩ := and_e hg
  obtain ⟨g2, gr2⟩ := and_e gr1
  obtain ⟨g3, gr3⟩ := and_e gr2
  obtain ⟨g4, g5⟩ := and_e gr3
  obtain ⟨w0, w1, w2, w3, rfl⟩ : ∃ w0 w1 w2 w3 : Value, args = #[w0, w1, w2, w3] := by
    have hs : args.size = 4 := by simpa [Cond.value, given_1] using g1
    obtain ⟨L⟩ := args
    match L, hs with
    | [w0, w1, w2, w3], _ => exact ⟨w0, w1, w2, w3, rfl⟩
  have hw := fun d (hd : d ∈ tables_1) => atoms_spec (ws := Jvm.Cond.code x code maxLocals ret :: tables_1) hat d (List.mem_cons_of_mem _ hd)
  obtain ⟨hsets, hown0⟩ := atoms_of _ (rest_1_c_eq ▸ (show rest_1_c.before _ s = true from hrest))
  have hfit : Fit s := fun {y c} hc i hi => by
    obtain ⟨ha, rfl⟩ := Array.getElem?_eq_some_iff.mp hc
    have q := List.all_eq_true.mp ((Array.all_eq_true_iff_forall_mem.mp hF) _ (Array.getElem_mem ha)) i (List.mem_range.mpr hi)
    simpa [Array.getElem?_eq_getElem hi] using q
  have c3 := not_v (Cond.before_iff.mp (hsets _ (List.mem_of_getElem? (i := 2) rfl)))
  obtain ⟨i0, ei0⟩ := is_v g2
  obtain rfl : w0 = (.int i0) := Option.some.inj ei0
  obtain ⟨i1, ei1⟩ := is_v g3
  obtain rfl : w1 = (.int i1) := Option.some.inj ei1
  obtain ⟨i2, ei2⟩ := is_v g4
  obtain rfl : w2 = (.int i2) := Option.some.inj ei2
  obtain ⟨i3, ei3⟩ := is_v g5
  obtain rfl : w3 = (.int i3) := Option.some.inj ei3
  obtain ⟨zc, ec⟩ := is_v (Cond.before_iff.mp (hsets _ (List.mem_of_getElem? (i := 1) rfl)))
  have CS : Sta s s.heap "java/lang/String" "COMPACT_STRINGS" "Z" (.int zc) := Sta.start ec (Or.inl (hsets _ (List.mem_of_getElem? (i := 0) rfl)))
  have hzc : ¬ (zc = (0 : Int32)) := gotF (Cond.eq_ints ec (Term.int_eval (0))) c3
  obtain ⟨fm, ef, rfm⟩ := isR_v (Cond.before_iff.mp (hsets _ (List.mem_of_getElem? (i := 8) rfl)))
  have SF : Sta s s.heap "jdk/internal/util/Preconditions" "SIOOBE_FORMATTER" "Ljava/util/function/BiFunction;" fm := Sta.start ef (Or.inl (hsets _ (List.mem_of_getElem? (i := 7) rfl)))
  have hEW : EW s _ consts_1 := (EW.cons (hw _ w_15) (by decide) EW.nil)
  have hCH : CHv s consts_1 s.vm s.heap := CHv.start hEW hcalls.1 (hsets _ (List.mem_of_getElem? (i := 2) rfl)) (hw _ w_16) (hw _ w_2)
  have SA : Sta s s.heap "java/lang/StringUTF16" "$assertionsDisabled" "Z" (.int (1 : Int32)) := Sta.start (eqv_i (Term.int_eval (1)) (Cond.before_iff.mp (hsets _ (List.mem_of_getElem? (i := 12) rfl)))) (Or.inl (hsets _ (List.mem_of_getElem? (i := 11) rfl)))
  have SH : Sta s s.heap "java/lang/StringUTF16" "HI_BYTE_SHIFT" "I" (.int (0 : Int32)) := Sta.start (eqv_i (Term.int_eval (0)) (Cond.before_iff.mp (hsets _ (List.mem_of_getElem? (i := 15) rfl)))) (Or.inl (hsets _ (List.mem_of_getElem? (i := 14) rfl)))
  have SL : Sta s s.heap "java/lang/StringUTF16" "LO_BYTE_SHIFT" "I" (.int (8 : Int32)) := Sta.start (eqv_i (Term.int_eval (8)) (Cond.before_iff.mp (hsets _ (List.mem_of_getElem? (i := 18) rfl)))) (Or.inl (hsets _ (List.mem_of_getElem? (i := 17) rfl)))
  obtain ⟨n, o, h1, h2, h3, _, L, rfl, ⟨rfl, N⟩, -, hq⟩ := cX l s _ hw tables_1 i0 i1 i2 i3 zc fm s.heap s.heap.size (Nat.le_refl _) hEW (Old.start s) SA SH SL CS hzc SF rfm p e ha hc hk s m _ below hf ((Spec.applies_iff_loose hf).mp happ).1 ⟨rfl, State.Warmed39.refl s, rfl, hCH⟩ trivial
  refine ⟨n, _, h1, h2, h3, hpost _ _ _ _ _ _ ⟨Cond.after_iff.mpr rfl, Cond.after_iff.mpr (eq_i res_at (Term.int_eval (1)) rfl), trivial⟩ ⟨hq.1, hq.2.1, hq.2.2.1, (hq.2.2.2.sift fun y hy => Or.inr (N y hy)).mono (by decide) (by decide)⟩⟩
theorem main_1_1 : Claimed_1_1 := comes_1 fun _ _ _ _ _ _ h hF => ⟨h.1, hF⟩
theorem main_1_2 : Claimed_1_2 := comes_1 fun _ _ _ _ _ _ h hF => ⟨h.2.1, hF⟩
end Jvm.Pilot.@@N@@
namespace Jvm.Pilot.@@N@@
open Jvm Jvm.ClassFile Sem Op Lib Jvm.Free Jvm.Stand Jvm.Pilot.@@N@@.Jvm.D
/-! MADE BY PROGRAM (witnessworld.py) out of the Statement's table words and the real class files: 20 classes; the members and pool entries that the words name. The judged class is class 1, her method 3. -/
namespace start1
open Jvm.ClassFile
def u (s : String) : CpInfo := .utf8 (stringToUtf16 s)
/-- a pool by its gaps: so many unusable entries, then the entry; so many at the end -/
def gap : Nat → List CpInfo → List CpInfo
  | 0, r => r
  | n + 1, r => .unusable :: gap n r
def poolList (es : List (Nat × CpInfo)) (last : Nat) : List CpInfo := es.foldr (fun e r => gap e.1 (e.2 :: r)) (gap last [])
def pool (es : List (Nat × CpInfo)) (last : Nat) : Array CpInfo := ⟨poolList es last⟩
def fileOf (pool : Array CpInfo) (this : Nat) (attrs : Array Attribute := #[]) (ms : Array MethodInfo := #[]) (fl : Nat := 33) (sup : Nat := 0) (ifs : Array Nat := #[]) (fds : Array FieldInfo := #[]) : ClassFile where
  minorVersion := 0
  majorVersion := 65
  constantPool := pool
  accessFlags := fl
  thisClass := this
  superClass := sup
  interfaces := ifs
  fields := fds
  methods := ms
  attributes := attrs
def plain (name : String) (sup : Option ClassId) : Class where
  name := name
  kind := .ordinary
  loader := none
  accessFlags := 33
  super := sup
  interfaces := #[]
  cf := none
  fields := #[]
  methods := #[]
  instanceTypes := #[]
  staticTypes := #[]
  resolved := #[]
  callSites := []
  init := .initialized
  statics := none
  mirror := none

def pool0 : Array CpInfo := pool [(5, u "<init>"), (0, u "()V"), (1, .class_ 10), (1, u "java/lang/Object")] 113

def k0c0 : Code := { maxStack := 0, maxLocals := 1, code := object_method_1_code, exceptionTable := #[], attributes := #[] }
def k0m0 : Method := { name := "<init>", desc := "()V", sig := { parameters := [], returnType := none }, accessFlags := 1, code := some k0c0 }
/-- java/lang/Object -/
def k0 : Class := { plain "java/lang/Object" none with
  accessFlags := 33
  interfaces := #[]
  cf := some (fileOf pool0 8 #[] #[{ accessFlags := 1, nameIndex := 5, descriptorIndex := 6, attributes := #[] }] 33 0 #[] #[])
  fields := #[]
  methods := #[k0m0]
  instanceTypes := #[]
  staticTypes := #[]
  resolved := Array.replicate 124 none
  statics := none }

def pool1 : Array CpInfo := pool [(2, .class_ 4), (1, u "java/lang/Object"), (0, u "<init>"), (0, u "()V"), (0, .long 1099511628211), (1, .long 18397679294719823053), (1, .long 14181476777654086739), (1, .integer 65535), (0, .class_ 15), (0, u "java/lang/String"), (0, .methodref 14 17), (0, .nameAndType 5 18), (0, u "([C)V"), (0, .methodref 14 20), (0, .nameAndType 21 22), (0, u "valueOf"), (0, u "(C)Ljava/lang/String;"), (0, .long 14695981039346656037), (1, .methodref 26 27), (0, .class_ 28), (0, .nameAndType 29 30), (0, u "com/example/ocotillo/ocotillo/store/MessageIndexHashPinLaw"), (0, u "fnvStep"), (0, u "(JC)J"), (0, .methodref 26 32), (0, .nameAndType 33 34), (0, u "fmix64"), (0, u "(J)J"), (0, .methodref 36 37), (0, .class_ 38), (0, .nameAndType 39 40), (0, u "com/example/ocotillo/ocotillo/store/MessageIndex"), (0, u "hash"), (0, u "(Ljava/lang/String;)I"), (2, u "law"), (0, u "(IIII)Z")] 3

def k1m0 : Method := { name := "<init>", desc := "()V", sig := { parameters := [], returnType := none }, accessFlags := 1, code := none }
def k1c1 : Code := { maxStack := 4, maxLocals := 3, code := method_2_code, exceptionTable := #[], attributes := #[] }
def k1m1 : Method := { name := "fnvStep", desc := "(JC)J", sig := { parameters := [.long, .char], returnType := some .long }, accessFlags := 10, code := some k1c1 }
def k1c2 : Code := { maxStack := 5, maxLocals := 2, code := method_3_code, exceptionTable := #[], attributes := #[] }
def k1m2 : Method := { name := "fmix64", desc := "(J)J", sig := { parameters := [.long], returnType := some .long }, accessFlags := 10, code := some k1c2 }
def k1c3 : Code := { maxStack := 6, maxLocals := 14, code := code, exceptionTable := #[], attributes := #[] }
def k1m3 : Method := { name := "law", desc := "(IIII)Z", sig := { parameters := [.int, .int, .int, .int], returnType := some .boolean }, accessFlags := 9, code := some k1c3 }
/-- com/example/ocotillo/ocotillo/store/MessageIndexHashPinLaw -/
def k1 : Class := { plain "com/example/ocotillo/ocotillo/store/MessageIndexHashPinLaw" (some 0) with
  accessFlags := 49
  interfaces := #[]
  cf := some (fileOf pool1 26 #[] #[{ accessFlags := 1, nameIndex := 5, descriptorIndex := 6, attributes := #[] }, { accessFlags := 10, nameIndex := 29, descriptorIndex := 30, attributes := #[] }, { accessFlags := 10, nameIndex := 33, descriptorIndex := 34, attributes := #[] }, { accessFlags := 9, nameIndex := 43, descriptorIndex := 44, attributes := #[] }] 49 2 #[] #[])
  fields := #[]
  methods := #[k1m0, k1m1, k1m2, k1m3]
  instanceTypes := #[]
  staticTypes := #[]
  resolved := Array.replicate 48 none
  statics := none }

def pool2 : Array CpInfo := pool [(1, .class_ 2), (0, u "java/io/Serializable"), (0, .class_ 4), (0, u "java/lang/Object")] 2

/-- java/io/Serializable -/
def k2 : Class := { plain "java/io/Serializable" (some 0) with
  accessFlags := 1537
  interfaces := #[]
  cf := some (fileOf pool2 1 #[] #[] 1537 3 #[] #[])
  fields := #[]
  methods := #[]
  instanceTypes := #[]
  staticTypes := #[]
  resolved := Array.replicate 7 none
  statics := none }

def pool3 : Array CpInfo := pool [(1, .class_ 2), (0, u "java/lang/Comparable"), (0, .class_ 4), (0, u "java/lang/Object")] 7

/-- java/lang/Comparable -/
def k3 : Class := { plain "java/lang/Comparable" (some 0) with
  accessFlags := 1537
  interfaces := #[]
  cf := some (fileOf pool3 1 #[] #[] 1537 3 #[] #[])
  fields := #[]
  methods := #[]
  instanceTypes := #[]
  staticTypes := #[]
  resolved := Array.replicate 12 none
  statics := none }

def pool4 : Array CpInfo := pool [(2, .class_ 4), (1, u "java/lang/CharSequence"), (42, .class_ 48), (0, u "java/lang/CharSequence$1CodePointIterator"), (10, .class_ 60), (0, u "java/lang/CharSequence$1CharIterator"), (5, .class_ 67), (0, u "java/lang/Object")] 63

/-- java/lang/CharSequence -/
def k4 : Class := { plain "java/lang/CharSequence" (some 0) with
  accessFlags := 1537
  interfaces := #[]
  cf := some (fileOf pool4 2 #[.nestMembers #[47, 59]] #[] 1537 66 #[] #[])
  fields := #[]
  methods := #[]
  instanceTypes := #[]
  staticTypes := #[]
  resolved := Array.replicate 131 none
  statics := none }

def pool5 : Array CpInfo := pool [(1, .class_ 2), (0, u "java/lang/constant/Constable"), (0, .class_ 4), (0, u "java/lang/Object")] 6

/-- java/lang/constant/Constable -/
def k5 : Class := { plain "java/lang/constant/Constable" (some 0) with
  accessFlags := 1537
  interfaces := #[]
  cf := some (fileOf pool5 1 #[] #[] 1537 3 #[] #[])
  fields := #[]
  methods := #[]
  instanceTypes := #[]
  staticTypes := #[]
  resolved := Array.replicate 11 none
  statics := none }

def pool6 : Array CpInfo := pool [(1, .class_ 2), (0, u "java/lang/constant/ConstantDesc"), (0, .class_ 4), (0, u "java/lang/Object")] 32

/-- java/lang/constant/ConstantDesc -/
def k6 : Class := { plain "java/lang/constant/ConstantDesc" (some 0) with
  accessFlags := 1537
  interfaces := #[]
  cf := some (fileOf pool6 1 #[] #[] 1537 3 #[] #[])
  fields := #[]
  methods := #[]
  instanceTypes := #[]
  staticTypes := #[]
  resolved := Array.replicate 37 none
  statics := none }

def pool7 : Array CpInfo := pool [(1, .methodref 2 3), (0, .class_ 4), (0, .nameAndType 5 6), (0, u "java/lang/Object"), (0, u "<init>"), (0, u "()V"), (0, .string 8), (0, u ""), (0, .fieldref 10 11), (0, .class_ 12), (0, .nameAndType 13 14), (0, u "java/lang/String"), (0, u "value"), (0, u "[B"), (0, .fieldref 10 16), (0, .nameAndType 17 18), (0, u "coder"), (0, u "B"), (2, u "hash"), (0, u "I"), (2, u "hashIsZero"), (0, u "Z"), (0, .methodref 10 28), (0, .nameAndType 5 29), (0, u "([CIILjava/lang/Void;)V"), (8, .fieldref 10 39), (0, .nameAndType 40 26), (0, u "COMPACT_STRINGS"), (1, .class_ 44), (1, u "java/lang/StringUTF16"), (0, u "compress"), (1, .methodref 42 48), (0, .nameAndType 49 50), (0, u "coderFromArrayLen"), (0, u "([BI)B"), (2, u "toBytes"), (53, .class_ 109), (1, u "java/lang/StringLatin1"), (32, u "()Z"), (34, .methodref 42 178), (0, .nameAndType 45 179), (0, u "([CII)[B"), (29, .methodref 10 210), (0, .nameAndType 5 211), (0, u "([BB)V"), (122, u "()I"), (0, .methodref 10 336), (0, .nameAndType 17 337), (0, u "()B"), (25, u "([BI)C"), (5, u "(C)Z"), (21, u "(II)V"), (35, u "(I)C"), (64, .methodref 10 493), (0, .nameAndType 494 142), (0, u "isLatin1"), (0, .methodref 107 496), (0, .nameAndType 497 363), (0, u "charAt"), (0, .methodref 42 496), (2, u "checkIndex"), (5, u "length"), (67, .class_ 576), (0, u "java/lang/CharSequence"), (22, u "CASE_INSENSITIVE_ORDER"), (0, u "Ljava/util/Comparator;"), (181, u "valueOf"), (0, u "(C)Ljava/lang/String;"), (226, u "([C)V"), (4, .methodref 107 1016), (0, .nameAndType 1017 369), (0, u "canEncode"), (0, .methodref 107 1019), (0, .nameAndType 53 1020), (0, u "(C)[B"), (0, .methodref 42 1019), (31, .fieldref 1054 1055), (0, .class_ 1056), (0, .nameAndType 1057 1058), (0, u "jdk/internal/util/Preconditions"), (0, u "SIOOBE_FORMATTER"), (0, u "Ljava/util/function/BiFunction;"), (0, .methodref 1054 1060), (0, .nameAndType 501 1061), (0, u "(IILjava/util/function/BiFunction;)I"), (39, u "serialPersistentFields"), (0, u "[Ljava/io/ObjectStreamField;"), (0, .class_ 1104), (0, u "java/lang/String$CaseInsensitiveComparator"), (1, .class_ 1107), (0, u "java/io/Serializable"), (0, .class_ 1109), (0, u "java/lang/Comparable"), (0, .class_ 1111), (0, u "java/lang/constant/Constable"), (0, .class_ 1113), (0, u "java/lang/constant/ConstantDesc"), (2, u "serialVersionUID"), (0, u "J"), (3, u "REPL"), (0, u "C"), (2, u "LATIN1"), (1, u "UTF16")] 323

def k7m0 : Method := { name := "<init>", desc := "()V", sig := { parameters := [], returnType := none }, accessFlags := 1, code := none }
def k7c1 : Code := { maxStack := 5, maxLocals := 2, code := jdk_42_method_3_code, exceptionTable := #[], attributes := #[] }
def k7m1 : Method := { name := "<init>", desc := "([C)V", sig := { parameters := [(.array .char)], returnType := none }, accessFlags := 1, code := some k7c1 }
def k7c2 : Code := { maxStack := 2, maxLocals := 1, code := jdk_42_method_54_code, exceptionTable := #[], attributes := #[] }
def k7m2 : Method := { name := "length", desc := "()I", sig := { parameters := [], returnType := some .int }, accessFlags := 1, code := some k7c2 }
def k7c3 : Code := { maxStack := 2, maxLocals := 2, code := jdk_42_method_56_code, exceptionTable := #[], attributes := #[] }
def k7m3 : Method := { name := "charAt", desc := "(I)C", sig := { parameters := [.int], returnType := some .char }, accessFlags := 1, code := some k7c3 }
def k7c4 : Code := { maxStack := 4, maxLocals := 1, code := jdk_42_method_139_code, exceptionTable := #[], attributes := #[] }
def k7m4 : Method := { name := "valueOf", desc := "(C)Ljava/lang/String;", sig := { parameters := [.char], returnType := some (.object "java/lang/String") }, accessFlags := 9, code := some k7c4 }
def k7c5 : Code := { maxStack := 4, maxLocals := 6, code := jdk_42_method_149_code, exceptionTable := #[], attributes := #[] }
def k7m5 : Method := { name := "<init>", desc := "([CIILjava/lang/Void;)V", sig := { parameters := [(.array .char), .int, .int, (.object "java/lang/Void")], returnType := none }, accessFlags := 2, code := some k7c5 }
def k7c6 : Code := { maxStack := 2, maxLocals := 3, code := jdk_42_method_151_code, exceptionTable := #[], attributes := #[] }
def k7m6 : Method := { name := "<init>", desc := "([BB)V", sig := { parameters := [(.array .byte), .byte], returnType := none }, accessFlags := 0, code := some k7c6 }
def k7c7 : Code := { maxStack := 1, maxLocals := 1, code := jdk_42_method_152_code, exceptionTable := #[], attributes := #[] }
def k7m7 : Method := { name := "coder", desc := "()B", sig := { parameters := [], returnType := some .byte }, accessFlags := 0, code := some k7c7 }
def k7c8 : Code := { maxStack := 1, maxLocals := 1, code := jdk_42_method_154_code, exceptionTable := #[], attributes := #[] }
def k7m8 : Method := { name := "isLatin1", desc := "()Z", sig := { parameters := [], returnType := some .boolean }, accessFlags := 0, code := some k7c8 }
def k7c9 : Code := { maxStack := 3, maxLocals := 2, code := jdk_42_method_155_code, exceptionTable := #[], attributes := #[] }
def k7m9 : Method := { name := "checkIndex", desc := "(II)V", sig := { parameters := [.int, .int], returnType := none }, accessFlags := 8, code := some k7c9 }
/-- java/lang/String -/
def k7 : Class := { plain "java/lang/String" (some 0) with
  accessFlags := 49
  interfaces := #[2, 3, 4, 5, 6]
  cf := some (fileOf pool7 10 #[.nestMembers #[1103]] #[{ accessFlags := 1, nameIndex := 5, descriptorIndex := 6, attributes := #[] }, { accessFlags := 1, nameIndex := 5, descriptorIndex := 1010, attributes := #[] }, { accessFlags := 1, nameIndex := 507, descriptorIndex := 334, attributes := #[] }, { accessFlags := 1, nameIndex := 497, descriptorIndex := 427, attributes := #[] }, { accessFlags := 9, nameIndex := 782, descriptorIndex := 783, attributes := #[] }, { accessFlags := 2, nameIndex := 5, descriptorIndex := 29, attributes := #[] }, { accessFlags := 0, nameIndex := 5, descriptorIndex := 211, attributes := #[] }, { accessFlags := 0, nameIndex := 17, descriptorIndex := 337, attributes := #[] }, { accessFlags := 0, nameIndex := 494, descriptorIndex := 142, attributes := #[] }, { accessFlags := 8, nameIndex := 501, descriptorIndex := 391, attributes := #[] }] 49 2 #[1106, 1108, 575, 1110, 1112] #[{ accessFlags := 18, nameIndex := 13, descriptorIndex := 14, attributes := #[] }, { accessFlags := 18, nameIndex := 17, descriptorIndex := 18, attributes := #[] }, { accessFlags := 2, nameIndex := 21, descriptorIndex := 22, attributes := #[] }, { accessFlags := 2, nameIndex := 25, descriptorIndex := 26, attributes := #[] }, { accessFlags := 26, nameIndex := 1116, descriptorIndex := 1117, attributes := #[] }, { accessFlags := 24, nameIndex := 40, descriptorIndex := 26, attributes := #[] }, { accessFlags := 26, nameIndex := 1101, descriptorIndex := 1102, attributes := #[] }, { accessFlags := 26, nameIndex := 1121, descriptorIndex := 1122, attributes := #[] }, { accessFlags := 25, nameIndex := 599, descriptorIndex := 600, attributes := #[] }, { accessFlags := 24, nameIndex := 1125, descriptorIndex := 18, attributes := #[] }, { accessFlags := 24, nameIndex := 1127, descriptorIndex := 18, attributes := #[] }])
  fields := #[{ name := "value", type := (.array .byte), accessFlags := 18, slot := 0, constantValue := 0 }, { name := "coder", type := .byte, accessFlags := 18, slot := 1, constantValue := 0 }, { name := "hash", type := .int, accessFlags := 2, slot := 2, constantValue := 0 }, { name := "hashIsZero", type := .boolean, accessFlags := 2, slot := 3, constantValue := 0 }, { name := "serialVersionUID", type := .long, accessFlags := 26, slot := 0, constantValue := 0 }, { name := "COMPACT_STRINGS", type := .boolean, accessFlags := 24, slot := 1, constantValue := 0 }, { name := "serialPersistentFields", type := (.array (.object "java/io/ObjectStreamField")), accessFlags := 26, slot := 2, constantValue := 0 }, { name := "REPL", type := .char, accessFlags := 26, slot := 3, constantValue := 0 }, { name := "CASE_INSENSITIVE_ORDER", type := (.object "java/util/Comparator"), accessFlags := 25, slot := 4, constantValue := 0 }, { name := "LATIN1", type := .byte, accessFlags := 24, slot := 5, constantValue := 0 }, { name := "UTF16", type := .byte, accessFlags := 24, slot := 6, constantValue := 0 }]
  methods := #[k7m0, k7m1, k7m2, k7m3, k7m4, k7m5, k7m6, k7m7, k7m8, k7m9]
  instanceTypes := #[(.array .byte), .byte, .int, .boolean]
  staticTypes := #[.long, .boolean, (.array (.object "java/io/ObjectStreamField")), .char, (.object "java/util/Comparator"), .byte, .byte]
  resolved := Array.replicate 1451 none
  statics := some 0 }

def pool8 : Array CpInfo := pool [(2, .class_ 4), (1, u "java/lang/Object"), (3, .class_ 10), (1, u "com/example/ocotillo/ocotillo/store/MessageIndex"), (0, u "records"), (0, u "Lcom/example/ocotillo/ocotillo/store/MessageIndex$Records;"), (2, u "hashes"), (0, u "[I"), (2, u "starts"), (0, u "[J"), (2, u "hash"), (0, u "(Ljava/lang/String;)I"), (10, u "size"), (0, u "I"), (1, .class_ 40), (1, u "com/example/ocotillo/ocotillo/store/MessageIndex$Records"), (3, .class_ 46), (1, u "java/lang/String"), (22, .long 14695981039346656037), (1, .methodref 44 72), (0, .nameAndType 73 74), (0, u "length"), (0, u "()I"), (0, .methodref 44 76), (0, .nameAndType 77 78), (0, u "charAt"), (0, u "(I)C"), (0, .long 1099511628211), (1, .long 18397679294719823053), (1, .long 14181476777654086739), (1, u "FIRST_SLOTS"), (2, u "MAX_LOAD_PERCENT"), (1, u "MAX_SLOTS"), (0, u "FREE")] 34

def k8c0 : Code := { maxStack := 5, maxLocals := 4, code := prog_21_method_10_code, exceptionTable := #[], attributes := #[] }
def k8m0 : Method := { name := "hash", desc := "(Ljava/lang/String;)I", sig := { parameters := [(.object "java/lang/String")], returnType := some .int }, accessFlags := 8, code := some k8c0 }
/-- com/example/ocotillo/ocotillo/store/MessageIndex -/
def k8 : Class := { plain "com/example/ocotillo/ocotillo/store/MessageIndex" (some 0) with
  accessFlags := 48
  interfaces := #[]
  cf := some (fileOf pool8 8 #[.nestMembers #[38]] #[{ accessFlags := 8, nameIndex := 23, descriptorIndex := 24, attributes := #[] }] 48 2 #[] #[{ accessFlags := 26, nameIndex := 85, descriptorIndex := 36, attributes := #[] }, { accessFlags := 26, nameIndex := 88, descriptorIndex := 36, attributes := #[] }, { accessFlags := 26, nameIndex := 90, descriptorIndex := 36, attributes := #[] }, { accessFlags := 24, nameIndex := 91, descriptorIndex := 36, attributes := #[] }, { accessFlags := 18, nameIndex := 11, descriptorIndex := 12, attributes := #[] }, { accessFlags := 2, nameIndex := 15, descriptorIndex := 16, attributes := #[] }, { accessFlags := 2, nameIndex := 19, descriptorIndex := 20, attributes := #[] }, { accessFlags := 2, nameIndex := 35, descriptorIndex := 36, attributes := #[] }])
  fields := #[{ name := "FIRST_SLOTS", type := .int, accessFlags := 26, slot := 0, constantValue := 0 }, { name := "MAX_LOAD_PERCENT", type := .int, accessFlags := 26, slot := 1, constantValue := 0 }, { name := "MAX_SLOTS", type := .int, accessFlags := 26, slot := 2, constantValue := 0 }, { name := "FREE", type := .int, accessFlags := 24, slot := 3, constantValue := 0 }, { name := "records", type := (.object "com/example/ocotillo/ocotillo/store/MessageIndex$Records"), accessFlags := 18, slot := 0, constantValue := 0 }, { name := "hashes", type := (.array .int), accessFlags := 2, slot := 1, constantValue := 0 }, { name := "starts", type := (.array .long), accessFlags := 2, slot := 2, constantValue := 0 }, { name := "size", type := .int, accessFlags := 2, slot := 3, constantValue := 0 }]
  methods := #[k8m0]
  instanceTypes := #[(.object "com/example/ocotillo/ocotillo/store/MessageIndex$Records"), (.array .int), (.array .long), .int]
  staticTypes := #[.int, .int, .int, .int]
  resolved := Array.replicate 126 none
  statics := none }

def pool9 : Array CpInfo := pool [(3, .class_ 4), (0, u "java/lang/String"), (1, .class_ 8), (1, u "java/lang/Object"), (0, u "<init>"), (0, u "()V"), (0, .methodref 12 13), (0, .class_ 14), (0, .nameAndType 15 16), (0, u "java/lang/StringUTF16"), (0, u "newBytesLength"), (0, u "(I)I"), (3, .integer 1073741823), (23, .fieldref 12 45), (0, .nameAndType 46 47), (0, u "$assertionsDisabled"), (0, u "Z"), (0, .methodref 12 49), (0, .nameAndType 50 51), (0, u "length"), (0, u "([B)I"), (7, .fieldref 12 60), (0, .nameAndType 61 62), (0, u "HI_BYTE_SHIFT"), (0, u "I"), (0, .fieldref 12 64), (0, .nameAndType 65 62), (0, u "LO_BYTE_SHIFT"), (1, .methodref 12 68), (0, .nameAndType 69 70), (0, u "checkIndex"), (0, u "(I[B)V"), (0, .methodref 12 72), (0, .nameAndType 73 74), (0, u "getChar"), (0, u "([BI)C"), (32, .methodref 12 108), (0, .nameAndType 109 110), (0, u "newBytesFor"), (0, u "(I)[B"), (0, .methodref 12 112), (0, .nameAndType 113 114), (0, u "putChar"), (0, u "([BII)V"), (0, .methodref 12 116), (0, .nameAndType 117 118), (0, u "compress"), (0, u "([CI[BII)I"), (0, .methodref 12 120), (0, .nameAndType 121 122), (0, u "toBytes"), (0, u "([CII)[B"), (138, u "coderFromArrayLen"), (0, u "([BI)B"), (106, .class_ 371), (1, u "java/lang/StringUTF16$LinesSpliterator"), (20, u "charAt"), (21, .methodref 3 415), (0, .nameAndType 69 416), (0, u "(II)V"), (13, u "MAX_LENGTH"), (44, u "(C)[B"), (151, .class_ 628), (0, u "java/lang/StringUTF16$CodePointsSpliterator"), (0, .class_ 630), (0, u "java/lang/StringUTF16$CharsSpliterator")] 4

def k9m0 : Method := { name := "<init>", desc := "()V", sig := { parameters := [], returnType := none }, accessFlags := 0, code := none }
def k9c1 : Code := { maxStack := 1, maxLocals := 1, code := jdk_52_method_2_code, exceptionTable := #[], attributes := #[] }
def k9m1 : Method := { name := "newBytesFor", desc := "(I)[B", sig := { parameters := [.int], returnType := some (.array .byte) }, accessFlags := 9, code := some k9c1 }
def k9c2 : Code := { maxStack := 4, maxLocals := 1, code := jdk_52_method_3_code, exceptionTable := #[], attributes := #[] }
def k9m2 : Method := { name := "newBytesLength", desc := "(I)I", sig := { parameters := [.int], returnType := some .int }, accessFlags := 9, code := some k9c2 }
def k9c3 : Code := { maxStack := 4, maxLocals := 3, code := jdk_52_method_4_code, exceptionTable := #[], attributes := #[] }
def k9m3 : Method := { name := "putChar", desc := "([BII)V", sig := { parameters := [(.array .byte), .int, .int], returnType := none }, accessFlags := 8, code := some k9c3 }
def k9c4 : Code := { maxStack := 3, maxLocals := 2, code := jdk_52_method_5_code, exceptionTable := #[], attributes := #[] }
def k9m4 : Method := { name := "getChar", desc := "([BI)C", sig := { parameters := [(.array .byte), .int], returnType := some .char }, accessFlags := 8, code := some k9c4 }
def k9c5 : Code := { maxStack := 2, maxLocals := 1, code := jdk_52_method_6_code, exceptionTable := #[], attributes := #[] }
def k9m5 : Method := { name := "length", desc := "([B)I", sig := { parameters := [(.array .byte)], returnType := some .int }, accessFlags := 9, code := some k9c5 }
def k9c6 : Code := { maxStack := 4, maxLocals := 5, code := jdk_52_method_14_code, exceptionTable := #[], attributes := #[] }
def k9m6 : Method := { name := "toBytes", desc := "([CII)[B", sig := { parameters := [(.array .char), .int, .int], returnType := some (.array .byte) }, accessFlags := 9, code := some k9c6 }
def k9c7 : Code := { maxStack := 2, maxLocals := 2, code := jdk_52_method_15_code, exceptionTable := #[], attributes := #[] }
def k9m7 : Method := { name := "coderFromArrayLen", desc := "([BI)B", sig := { parameters := [(.array .byte), .int], returnType := some .byte }, accessFlags := 8, code := some k9c7 }
def k9c8 : Code := { maxStack := 5, maxLocals := 6, code := jdk_52_method_16_code, exceptionTable := #[], attributes := #[] }
def k9m8 : Method := { name := "compress", desc := "([CII)[B", sig := { parameters := [(.array .char), .int, .int], returnType := some (.array .byte) }, accessFlags := 9, code := some k9c8 }
def k9c9 : Code := { maxStack := 3, maxLocals := 7, code := jdk_52_method_21_code, exceptionTable := #[], attributes := #[] }
def k9m9 : Method := { name := "compress", desc := "([CI[BII)I", sig := { parameters := [(.array .char), .int, (.array .byte), .int, .int], returnType := some .int }, accessFlags := 9, code := some k9c9 }
def k9c10 : Code := { maxStack := 3, maxLocals := 2, code := jdk_52_method_24_code, exceptionTable := #[], attributes := #[] }
def k9m10 : Method := { name := "toBytes", desc := "(C)[B", sig := { parameters := [.char], returnType := some (.array .byte) }, accessFlags := 9, code := some k9c10 }
def k9c11 : Code := { maxStack := 2, maxLocals := 2, code := jdk_52_method_83_code, exceptionTable := #[], attributes := #[] }
def k9m11 : Method := { name := "charAt", desc := "([BI)C", sig := { parameters := [(.array .byte), .int], returnType := some .char }, accessFlags := 9, code := some k9c11 }
def k9c12 : Code := { maxStack := 2, maxLocals := 2, code := jdk_52_method_91_code, exceptionTable := #[], attributes := #[] }
def k9m12 : Method := { name := "checkIndex", desc := "(I[B)V", sig := { parameters := [.int, (.array .byte)], returnType := none }, accessFlags := 9, code := some k9c12 }
/-- java/lang/StringUTF16 -/
def k9 : Class := { plain "java/lang/StringUTF16" (some 0) with
  accessFlags := 48
  interfaces := #[]
  cf := some (fileOf pool9 12 #[.nestMembers #[627, 629, 369]] #[{ accessFlags := 0, nameIndex := 9, descriptorIndex := 10, attributes := #[] }, { accessFlags := 9, nameIndex := 109, descriptorIndex := 110, attributes := #[] }, { accessFlags := 9, nameIndex := 15, descriptorIndex := 16, attributes := #[] }, { accessFlags := 8, nameIndex := 113, descriptorIndex := 114, attributes := #[] }, { accessFlags := 8, nameIndex := 73, descriptorIndex := 74, attributes := #[] }, { accessFlags := 9, nameIndex := 50, descriptorIndex := 51, attributes := #[] }, { accessFlags := 9, nameIndex := 121, descriptorIndex := 122, attributes := #[] }, { accessFlags := 8, nameIndex := 261, descriptorIndex := 262, attributes := #[] }, { accessFlags := 9, nameIndex := 117, descriptorIndex := 122, attributes := #[] }, { accessFlags := 9, nameIndex := 117, descriptorIndex := 118, attributes := #[] }, { accessFlags := 9, nameIndex := 121, descriptorIndex := 475, attributes := #[] }, { accessFlags := 9, nameIndex := 392, descriptorIndex := 74, attributes := #[] }, { accessFlags := 9, nameIndex := 69, descriptorIndex := 70, attributes := #[] }] 48 6 #[] #[{ accessFlags := 26, nameIndex := 61, descriptorIndex := 62, attributes := #[] }, { accessFlags := 26, nameIndex := 65, descriptorIndex := 62, attributes := #[] }, { accessFlags := 24, nameIndex := 430, descriptorIndex := 62, attributes := #[] }, { accessFlags := 4120, nameIndex := 46, descriptorIndex := 47, attributes := #[] }])
  fields := #[{ name := "HI_BYTE_SHIFT", type := .int, accessFlags := 26, slot := 0, constantValue := 0 }, { name := "LO_BYTE_SHIFT", type := .int, accessFlags := 26, slot := 1, constantValue := 0 }, { name := "MAX_LENGTH", type := .int, accessFlags := 24, slot := 2, constantValue := 0 }, { name := "$assertionsDisabled", type := .boolean, accessFlags := 4120, slot := 3, constantValue := 0 }]
  methods := #[k9m0, k9m1, k9m2, k9m3, k9m4, k9m5, k9m6, k9m7, k9m8, k9m9, k9m10, k9m11, k9m12]
  instanceTypes := #[]
  staticTypes := #[.int, .int, .int, .boolean]
  resolved := Array.replicate 635 none
  statics := some 1 }

def pool10 : Array CpInfo := pool [(1, .class_ 2), (0, u "java/lang/String"), (1, .class_ 6), (1, u "java/lang/Object"), (0, u "<init>"), (0, u "()V"), (0, .methodref 1 10), (0, .nameAndType 11 12), (0, u "checkIndex"), (0, u "(II)V"), (1, .class_ 16), (1, u "java/lang/StringLatin1"), (36, u "([BI)C"), (36, u "canEncode"), (14, u "(C)Z"), (15, u "$assertionsDisabled"), (0, u "Z"), (98, .class_ 223), (1, u "java/lang/StringLatin1$LinesSpliterator"), (28, u "charAt"), (127, u "toBytes"), (1, u "(C)[B"), (7, .class_ 391), (0, u "java/lang/StringLatin1$CharsSpliterator")] 3

def k10m0 : Method := { name := "<init>", desc := "()V", sig := { parameters := [], returnType := none }, accessFlags := 0, code := none }
def k10c1 : Code := { maxStack := 2, maxLocals := 2, code := jdk_43_method_2_code, exceptionTable := #[], attributes := #[] }
def k10m1 : Method := { name := "charAt", desc := "([BI)C", sig := { parameters := [(.array .byte), .int], returnType := some .char }, accessFlags := 9, code := some k10c1 }
def k10c2 : Code := { maxStack := 2, maxLocals := 1, code := jdk_43_method_3_code, exceptionTable := #[], attributes := #[] }
def k10m2 : Method := { name := "canEncode", desc := "(C)Z", sig := { parameters := [.char], returnType := some .boolean }, accessFlags := 9, code := some k10c2 }
def k10c3 : Code := { maxStack := 4, maxLocals := 1, code := jdk_43_method_46_code, exceptionTable := #[], attributes := #[] }
def k10m3 : Method := { name := "toBytes", desc := "(C)[B", sig := { parameters := [.char], returnType := some (.array .byte) }, accessFlags := 9, code := some k10c3 }
/-- java/lang/StringLatin1 -/
def k10 : Class := { plain "java/lang/StringLatin1" (some 0) with
  accessFlags := 48
  interfaces := #[]
  cf := some (fileOf pool10 14 #[.nestMembers #[390, 221]] #[{ accessFlags := 0, nameIndex := 7, descriptorIndex := 8, attributes := #[] }, { accessFlags := 9, nameIndex := 252, descriptorIndex := 53, attributes := #[] }, { accessFlags := 9, nameIndex := 90, descriptorIndex := 105, attributes := #[] }, { accessFlags := 9, nameIndex := 380, descriptorIndex := 382, attributes := #[] }] 48 4 #[] #[{ accessFlags := 4120, nameIndex := 121, descriptorIndex := 122, attributes := #[] }])
  fields := #[{ name := "$assertionsDisabled", type := .boolean, accessFlags := 4120, slot := 0, constantValue := 0 }]
  methods := #[k10m0, k10m1, k10m2, k10m3]
  instanceTypes := #[]
  staticTypes := #[.boolean]
  resolved := Array.replicate 395 none
  statics := none }

def pool11 : Array CpInfo := pool [(2, .class_ 4), (1, u "java/lang/Object"), (0, u "<init>"), (0, u "()V"), (17, .class_ 26), (1, u "jdk/internal/util/Preconditions"), (6, u "checkIndex"), (21, .class_ 56), (0, u "jdk/internal/util/Preconditions$4"), (57, .class_ 115), (0, u "jdk/internal/util/Preconditions$1"), (7, u "SIOOBE_FORMATTER"), (0, u "Ljava/util/function/BiFunction;"), (0, .class_ 126), (0, u "jdk/internal/util/Preconditions$2"), (3, u "AIOOBE_FORMATTER"), (0, .class_ 132), (0, u "jdk/internal/util/Preconditions$3"), (3, u "IOOBE_FORMATTER"), (41, u "(IILjava/util/function/BiFunction;)I")] 15

def k11m0 : Method := { name := "<init>", desc := "()V", sig := { parameters := [], returnType := none }, accessFlags := 1, code := none }
def k11c1 : Code := { maxStack := 3, maxLocals := 3, code := jdk_41_method_11_code, exceptionTable := #[], attributes := #[] }
def k11m1 : Method := { name := "checkIndex", desc := "(IILjava/util/function/BiFunction;)I", sig := { parameters := [.int, .int, (.object "java/util/function/BiFunction")], returnType := some .int }, accessFlags := 9, code := some k11c1 }
/-- jdk/internal/util/Preconditions -/
def k11 : Class := { plain "jdk/internal/util/Preconditions" (some 0) with
  accessFlags := 33
  interfaces := #[]
  cf := some (fileOf pool11 24 #[.nestMembers #[55, 131, 125, 114]] #[{ accessFlags := 1, nameIndex := 5, descriptorIndex := 6, attributes := #[] }, { accessFlags := 9, nameIndex := 33, descriptorIndex := 178, attributes := #[] }] 33 2 #[] #[{ accessFlags := 25, nameIndex := 123, descriptorIndex := 124, attributes := #[] }, { accessFlags := 25, nameIndex := 130, descriptorIndex := 124, attributes := #[] }, { accessFlags := 25, nameIndex := 136, descriptorIndex := 124, attributes := #[] }])
  fields := #[{ name := "SIOOBE_FORMATTER", type := (.object "java/util/function/BiFunction"), accessFlags := 25, slot := 0, constantValue := 0 }, { name := "AIOOBE_FORMATTER", type := (.object "java/util/function/BiFunction"), accessFlags := 25, slot := 1, constantValue := 0 }, { name := "IOOBE_FORMATTER", type := (.object "java/util/function/BiFunction"), accessFlags := 25, slot := 2, constantValue := 0 }]
  methods := #[k11m0, k11m1]
  instanceTypes := #[]
  staticTypes := #[(.object "java/util/function/BiFunction"), (.object "java/util/function/BiFunction"), (.object "java/util/function/BiFunction")]
  resolved := Array.replicate 194 none
  statics := some 2 }

def pool12 : Array CpInfo := pool [(9, u "<init>"), (6, .class_ 18), (1, u "java/lang/Object"), (0, u "()V"), (1, .class_ 23), (1, u "jdk/internal/util/ArraysSupport"), (0, u "LOG2_ARRAY_LONG_INDEX_SCALE"), (0, u "I"), (2, u "U"), (0, u "Ljdk/internal/misc/Unsafe;"), (8, u "BIG_ENDIAN"), (0, u "Z"), (8, u "LOG2_BYTE_BIT_SIZE"), (4, u "LOG2_ARRAY_INT_INDEX_SCALE"), (54, u "JLA"), (0, u "Ljdk/internal/access/JavaLangAccess;"), (11, u "LOG2_ARRAY_BOOLEAN_INDEX_SCALE"), (9, u "LOG2_ARRAY_BYTE_INDEX_SCALE"), (5, u "LOG2_ARRAY_CHAR_INDEX_SCALE"), (5, u "LOG2_ARRAY_SHORT_INDEX_SCALE"), (18, u "LOG2_ARRAY_FLOAT_INDEX_SCALE"), (24, u "LOG2_ARRAY_DOUBLE_INDEX_SCALE"), (89, u "T_BOOLEAN"), (2, u "T_CHAR"), (1, u "T_FLOAT"), (1, u "T_DOUBLE"), (1, u "T_BYTE"), (1, u "T_SHORT"), (1, u "T_INT"), (1, u "T_LONG"), (1, u "SOFT_MAX_ARRAY_LENGTH")] 83

def k12m0 : Method := { name := "<init>", desc := "()V", sig := { parameters := [], returnType := none }, accessFlags := 2, code := none }
/-- jdk/internal/util/ArraysSupport -/
def k12 : Class := { plain "jdk/internal/util/ArraysSupport" (some 0) with
  accessFlags := 33
  interfaces := #[]
  cf := some (fileOf pool12 21 #[] #[{ accessFlags := 2, nameIndex := 9, descriptorIndex := 19, attributes := #[] }] 33 16 #[] #[{ accessFlags := 24, nameIndex := 28, descriptorIndex := 29, attributes := #[] }, { accessFlags := 26, nameIndex := 38, descriptorIndex := 39, attributes := #[] }, { accessFlags := 25, nameIndex := 121, descriptorIndex := 25, attributes := #[] }, { accessFlags := 25, nameIndex := 131, descriptorIndex := 25, attributes := #[] }, { accessFlags := 25, nameIndex := 137, descriptorIndex := 25, attributes := #[] }, { accessFlags := 25, nameIndex := 143, descriptorIndex := 25, attributes := #[] }, { accessFlags := 25, nameIndex := 53, descriptorIndex := 25, attributes := #[] }, { accessFlags := 25, nameIndex := 24, descriptorIndex := 25, attributes := #[] }, { accessFlags := 25, nameIndex := 162, descriptorIndex := 25, attributes := #[] }, { accessFlags := 25, nameIndex := 187, descriptorIndex := 25, attributes := #[] }, { accessFlags := 26, nameIndex := 48, descriptorIndex := 25, attributes := #[] }, { accessFlags := 25, nameIndex := 277, descriptorIndex := 25, attributes := #[] }, { accessFlags := 25, nameIndex := 280, descriptorIndex := 25, attributes := #[] }, { accessFlags := 25, nameIndex := 282, descriptorIndex := 25, attributes := #[] }, { accessFlags := 25, nameIndex := 284, descriptorIndex := 25, attributes := #[] }, { accessFlags := 25, nameIndex := 286, descriptorIndex := 25, attributes := #[] }, { accessFlags := 25, nameIndex := 288, descriptorIndex := 25, attributes := #[] }, { accessFlags := 25, nameIndex := 290, descriptorIndex := 25, attributes := #[] }, { accessFlags := 25, nameIndex := 292, descriptorIndex := 25, attributes := #[] }, { accessFlags := 26, nameIndex := 108, descriptorIndex := 109, attributes := #[] }, { accessFlags := 25, nameIndex := 294, descriptorIndex := 25, attributes := #[] }])
  fields := #[{ name := "U", type := (.object "jdk/internal/misc/Unsafe"), accessFlags := 24, slot := 0, constantValue := 0 }, { name := "BIG_ENDIAN", type := .boolean, accessFlags := 26, slot := 1, constantValue := 0 }, { name := "LOG2_ARRAY_BOOLEAN_INDEX_SCALE", type := .int, accessFlags := 25, slot := 2, constantValue := 0 }, { name := "LOG2_ARRAY_BYTE_INDEX_SCALE", type := .int, accessFlags := 25, slot := 3, constantValue := 0 }, { name := "LOG2_ARRAY_CHAR_INDEX_SCALE", type := .int, accessFlags := 25, slot := 4, constantValue := 0 }, { name := "LOG2_ARRAY_SHORT_INDEX_SCALE", type := .int, accessFlags := 25, slot := 5, constantValue := 0 }, { name := "LOG2_ARRAY_INT_INDEX_SCALE", type := .int, accessFlags := 25, slot := 6, constantValue := 0 }, { name := "LOG2_ARRAY_LONG_INDEX_SCALE", type := .int, accessFlags := 25, slot := 7, constantValue := 0 }, { name := "LOG2_ARRAY_FLOAT_INDEX_SCALE", type := .int, accessFlags := 25, slot := 8, constantValue := 0 }, { name := "LOG2_ARRAY_DOUBLE_INDEX_SCALE", type := .int, accessFlags := 25, slot := 9, constantValue := 0 }, { name := "LOG2_BYTE_BIT_SIZE", type := .int, accessFlags := 26, slot := 10, constantValue := 0 }, { name := "T_BOOLEAN", type := .int, accessFlags := 25, slot := 11, constantValue := 0 }, { name := "T_CHAR", type := .int, accessFlags := 25, slot := 12, constantValue := 0 }, { name := "T_FLOAT", type := .int, accessFlags := 25, slot := 13, constantValue := 0 }, { name := "T_DOUBLE", type := .int, accessFlags := 25, slot := 14, constantValue := 0 }, { name := "T_BYTE", type := .int, accessFlags := 25, slot := 15, constantValue := 0 }, { name := "T_SHORT", type := .int, accessFlags := 25, slot := 16, constantValue := 0 }, { name := "T_INT", type := .int, accessFlags := 25, slot := 17, constantValue := 0 }, { name := "T_LONG", type := .int, accessFlags := 25, slot := 18, constantValue := 0 }, { name := "JLA", type := (.object "jdk/internal/access/JavaLangAccess"), accessFlags := 26, slot := 19, constantValue := 0 }, { name := "SOFT_MAX_ARRAY_LENGTH", type := .int, accessFlags := 25, slot := 20, constantValue := 0 }]
  methods := #[k12m0]
  instanceTypes := #[]
  staticTypes := #[(.object "jdk/internal/misc/Unsafe"), .boolean, .int, .int, .int, .int, .int, .int, .int, .int, .int, .int, .int, .int, .int, .int, .int, .int, .int, (.object "jdk/internal/access/JavaLangAccess"), .int]
  resolved := Array.replicate 378 none
  statics := none }

def pool13 : Array CpInfo := pool [(1, u "java/lang/Cloneable"), (0, .class_ 1), (0, u "java/lang/Object"), (0, .class_ 3)] 3

/-- java/lang/Cloneable -/
def k13 : Class := { plain "java/lang/Cloneable" (some 0) with
  accessFlags := 1537
  interfaces := #[]
  cf := some (fileOf pool13 2 #[] #[] 1537 4 #[] #[])
  fields := #[]
  methods := #[]
  instanceTypes := #[]
  staticTypes := #[]
  resolved := Array.replicate 8 none
  statics := none }

/-- the primitive byte -/
def k14 : Class := { plain "byte" none with kind := .primitive 'B', accessFlags := 0x411 }
/-- [B -/
def k15 : Class := { plain "[B" (some 0) with kind := .array 14 .byte, interfaces := #[13, 2], accessFlags := 1041 }

/-- the primitive char -/
def k16 : Class := { plain "char" none with kind := .primitive 'C', accessFlags := 0x411 }
/-- [C -/
def k17 : Class := { plain "[C" (some 0) with kind := .array 16 .char, interfaces := #[13, 2], accessFlags := 1041 }

/-- the primitive int -/
def k18 : Class := { plain "int" none with kind := .primitive 'I', accessFlags := 0x411 }
/-- [I -/
def k19 : Class := { plain "[I" (some 0) with kind := .array 18 .int, interfaces := #[13, 2], accessFlags := 1041 }

def heap : Heap := #[{ cls := 7, slots := #[.long 0, .int 1, .null, .int 0, .null, .int 0, .int 0], vm := .statics 7 },
  { cls := 9, slots := #[.int 0, .int 8, .int 0, .int 1], vm := .statics 9 },
  { cls := 11, slots := #[.null, .null, .null], vm := .statics 11 }]
def classes : Array Class := #[k0, k1, k2, k3, k4, k5, k6, k7, k8, k9, k10, k11, k12, k13, k14, k15, k16, k17, k18, k19]
def interned : List (Array UInt16 × Addr) := []
def slotsUsed : Nat := 14
def theMethod : MethodId := ⟨1, 3⟩
def args0 : Array Value := #[.int 5, .int 65, .int 97, .int 300]
def aboutOver (below : List Frame) : State where
  vm := { classes := classes, interned := interned.toArray }
  heap := heap
  slotsUsed := slotsUsed
  threads := #[{ frames := .invoking theMethod args0 :: below }]
def below0 : List Frame := [.native { method := ⟨0, 0⟩, args := #[] }]
def about1 : State := aboutOver below0
def p0 : Program := .bare "" "" ""
def e0 : Env := launch0.env 0 0 0
theorem w_frames : about1.frames = Frame.invoking theMethod args0 :: below0 := rfl
set_option maxRecDepth 65536 in
theorem w_args : argsFit about1.vm theMethod args0 = true := by decide +kernel
set_option maxRecDepth 65536 in
theorem w_heap : heapFits about1 = true := by decide +kernel
set_option maxRecDepth 65536 in
theorem w_runnable : about1.curStatus? = some .runnable := by decide +kernel
set_option maxRecDepth 65536 in
theorem w_alone : about1.alone = true := by decide +kernel
set_option maxRecDepth 65536 in
theorem w_named : about1.methodNamed? x = some theMethod := by decide +kernel
set_option maxRecDepth 65536 in
theorem w_hears : about1.hears theMethod below0 = true := by decide +kernel
set_option maxRecDepth 65536 in
theorem w_ripe : about1.ripe theMethod args0 below0 = true := by decide +kernel
theorem w_running : about1.status = .running := rfl
set_option maxRecDepth 65536 in
theorem w_room : about1.hasRoom e0.platform room_1 = true :=
  launch0.hasRoom_least _ room_1 (by decide +kernel) (by decide +kernel) (by decide +kernel) (by decide +kernel) (by decide +kernel) (by decide +kernel)
theorem allAtoms_all (ts : List Jvm.Cond) (a : Array Jvm.Value) (st : Jvm.State) : (allAtoms ts).before a st = ts.all (fun c => c.before a st) := by
  induction ts with
  | nil => rfl
  | cons c t ih =>
    show (Jvm.Cond.and c (allAtoms t)).before a st = _
    rw [Jvm.Cond.before_and, ih, List.all_cons]
def words1 : List Jvm.Cond := Jvm.Cond.code x code maxLocals ret :: tables_1
/-- a 'code' word, met by the world's own term for the bytes: nothing is compared byte by byte -/
theorem code_word {y : MethodName} {bytes : ByteArray} {mx : Nat} {rt : Option FieldType} {a : Array Value} {s : State} {m : MethodId} {meth : Method} {c : Code} (h1 : s.methodNamed? y = some m) (h2 : s.vm.method? m = some meth) (h3 : meth.code = some c) (h4 : c.code = bytes)
    (h5 : (c.maxLocals == mx && c.exceptionTable.isEmpty && decide (c.maxStack ≤ mostOperands) && decide (meth.sig.returnType = rt) && !meth.locks && decide (parseMethodDescriptor y.desc = some meth.sig)) = true) : (Jvm.Cond.code y bytes mx rt).before a s = true := by
  simp only [Bool.and_eq_true, beq_iff_eq, Bool.not_eq_true', decide_eq_true_eq] at h5
  obtain ⟨⟨⟨⟨⟨g1, g2⟩, g3⟩, g4⟩, g5⟩, g6⟩ := h5
  simp [Cond.before, Cond.holds, Cond.value, h1, h2, h3, h4, g1, g2, g3, g4, g5, g6]
def isCode : Jvm.Cond → Bool
  | .code _ _ _ _ => true
  | _ => false
theorem all_split {L : List Jvm.Cond} {P : Jvm.Cond → Bool} (h1 : L.all (fun c => isCode c || P c) = true) (h2 : ∀ c ∈ L.filter isCode, P c = true) : L.all P = true := by
  refine List.all_eq_true.mpr fun c hc => ?_
  have h := List.all_eq_true.mp h1 c hc
  rcases Bool.eq_false_or_eq_true (isCode c) with hi | hi
  · exact h2 c (List.mem_filter.mpr ⟨hc, hi⟩)
  · simpa [hi] using h
set_option maxRecDepth 65536 in
theorem w_c0 : (Jvm.Cond.code x code maxLocals ret).before args0 about1 = true := code_word (m := ⟨1, 3⟩) (meth := k1m3) (c := k1c3) (by decide +kernel) rfl rfl rfl (by decide +kernel)
set_option maxRecDepth 65536 in
theorem w_c1 : (Jvm.Cond.code ({ cls := "java/lang/String", name := "<init>", desc := "([C)V" } : Jvm.MethodName) jdk_42_method_3_code (2 : Nat) (Option.none : Option Jvm.ClassFile.FieldType)).before args0 about1 = true := code_word (m := ⟨7, 1⟩) (meth := k7m1) (c := k7c1) (by decide +kernel) rfl rfl rfl (by decide +kernel)
set_option maxRecDepth 65536 in
theorem w_c2 : (Jvm.Cond.code ({ cls := "java/lang/String", name := "<init>", desc := "([CIILjava/lang/Void;)V" } : Jvm.MethodName) jdk_42_method_149_code (6 : Nat) (Option.none : Option Jvm.ClassFile.FieldType)).before args0 about1 = true := code_word (m := ⟨7, 5⟩) (meth := k7m5) (c := k7c5) (by decide +kernel) rfl rfl rfl (by decide +kernel)
set_option maxRecDepth 65536 in
theorem w_c3 : (Jvm.Cond.code ({ cls := "java/lang/Object", name := "<init>", desc := "()V" } : Jvm.MethodName) object_method_1_code (1 : Nat) (Option.none : Option Jvm.ClassFile.FieldType)).before args0 about1 = true := code_word (m := ⟨0, 0⟩) (meth := k0m0) (c := k0c0) (by decide +kernel) rfl rfl rfl (by decide +kernel)
set_option maxRecDepth 65536 in
theorem w_c4 : (Jvm.Cond.code ({ cls := "com/example/ocotillo/ocotillo/store/MessageIndexHashPinLaw", name := "fmix64", desc := "(J)J" } : Jvm.MethodName) method_3_code (2 : Nat) (Option.some Jvm.ClassFile.FieldType.long)).before args0 about1 = true := code_word (m := ⟨1, 2⟩) (meth := k1m2) (c := k1c2) (by decide +kernel) rfl rfl rfl (by decide +kernel)
set_option maxRecDepth 65536 in
theorem w_c5 : (Jvm.Cond.code ({ cls := "com/example/ocotillo/ocotillo/store/MessageIndex", name := "hash", desc := "(Ljava/lang/String;)I" } : Jvm.MethodName) prog_21_method_10_code (4 : Nat) (Option.some Jvm.ClassFile.FieldType.int)).before args0 about1 = true := code_word (m := ⟨8, 0⟩) (meth := k8m0) (c := k8c0) (by decide +kernel) rfl rfl rfl (by decide +kernel)
set_option maxRecDepth 65536 in
theorem w_c6 : (Jvm.Cond.code ({ cls := "java/lang/String", name := "length", desc := "()I" } : Jvm.MethodName) jdk_42_method_54_code (1 : Nat) (Option.some Jvm.ClassFile.FieldType.int)).before args0 about1 = true := code_word (m := ⟨7, 2⟩) (meth := k7m2) (c := k7c2) (by decide +kernel) rfl rfl rfl (by decide +kernel)
set_option maxRecDepth 65536 in
theorem w_c7 : (Jvm.Cond.code ({ cls := "java/lang/String", name := "coder", desc := "()B" } : Jvm.MethodName) jdk_42_method_152_code (1 : Nat) (Option.some Jvm.ClassFile.FieldType.byte)).before args0 about1 = true := code_word (m := ⟨7, 7⟩) (meth := k7m7) (c := k7c7) (by decide +kernel) rfl rfl rfl (by decide +kernel)
set_option maxRecDepth 65536 in
theorem w_c8 : (Jvm.Cond.code ({ cls := "java/lang/StringUTF16", name := "compress", desc := "([CII)[B" } : Jvm.MethodName) jdk_52_method_16_code (6 : Nat) (Option.some (Jvm.ClassFile.FieldType.array Jvm.ClassFile.FieldType.byte))).before args0 about1 = true := code_word (m := ⟨9, 8⟩) (meth := k9m8) (c := k9c8) (by decide +kernel) rfl rfl rfl (by decide +kernel)
set_option maxRecDepth 65536 in
theorem w_c9 : (Jvm.Cond.code ({ cls := "java/lang/StringUTF16", name := "compress", desc := "([CI[BII)I" } : Jvm.MethodName) jdk_52_method_21_code (7 : Nat) (Option.some Jvm.ClassFile.FieldType.int)).before args0 about1 = true := code_word (m := ⟨9, 9⟩) (meth := k9m9) (c := k9c9) (by decide +kernel) rfl rfl rfl (by decide +kernel)
set_option maxRecDepth 65536 in
theorem w_c10 : (Jvm.Cond.code ({ cls := "java/lang/StringUTF16", name := "coderFromArrayLen", desc := "([BI)B" } : Jvm.MethodName) jdk_52_method_15_code (2 : Nat) (Option.some Jvm.ClassFile.FieldType.byte)).before args0 about1 = true := code_word (m := ⟨9, 7⟩) (meth := k9m7) (c := k9c7) (by decide +kernel) rfl rfl rfl (by decide +kernel)
set_option maxRecDepth 65536 in
theorem w_c11 : (Jvm.Cond.code ({ cls := "com/example/ocotillo/ocotillo/store/MessageIndexHashPinLaw", name := "fnvStep", desc := "(JC)J" } : Jvm.MethodName) method_2_code (3 : Nat) (Option.some Jvm.ClassFile.FieldType.long)).before args0 about1 = true := code_word (m := ⟨1, 1⟩) (meth := k1m1) (c := k1c1) (by decide +kernel) rfl rfl rfl (by decide +kernel)
set_option maxRecDepth 65536 in
theorem w_c12 : (Jvm.Cond.code ({ cls := "java/lang/String", name := "charAt", desc := "(I)C" } : Jvm.MethodName) jdk_42_method_56_code (2 : Nat) (Option.some Jvm.ClassFile.FieldType.char)).before args0 about1 = true := code_word (m := ⟨7, 3⟩) (meth := k7m3) (c := k7c3) (by decide +kernel) rfl rfl rfl (by decide +kernel)
set_option maxRecDepth 65536 in
theorem w_c13 : (Jvm.Cond.code ({ cls := "java/lang/String", name := "isLatin1", desc := "()Z" } : Jvm.MethodName) jdk_42_method_154_code (1 : Nat) (Option.some Jvm.ClassFile.FieldType.boolean)).before args0 about1 = true := code_word (m := ⟨7, 8⟩) (meth := k7m8) (c := k7c8) (by decide +kernel) rfl rfl rfl (by decide +kernel)
set_option maxRecDepth 65536 in
theorem w_c14 : (Jvm.Cond.code ({ cls := "java/lang/StringLatin1", name := "charAt", desc := "([BI)C" } : Jvm.MethodName) jdk_43_method_2_code (2 : Nat) (Option.some Jvm.ClassFile.FieldType.char)).before args0 about1 = true := code_word (m := ⟨10, 1⟩) (meth := k10m1) (c := k10c1) (by decide +kernel) rfl rfl rfl (by decide +kernel)
set_option maxRecDepth 65536 in
theorem w_c15 : (Jvm.Cond.code ({ cls := "java/lang/String", name := "checkIndex", desc := "(II)V" } : Jvm.MethodName) jdk_42_method_155_code (2 : Nat) (Option.none : Option Jvm.ClassFile.FieldType)).before args0 about1 = true := code_word (m := ⟨7, 9⟩) (meth := k7m9) (c := k7c9) (by decide +kernel) rfl rfl rfl (by decide +kernel)
set_option maxRecDepth 65536 in
theorem w_c16 : (Jvm.Cond.code ({ cls := "jdk/internal/util/Preconditions", name := "checkIndex", desc := "(IILjava/util/function/BiFunction;)I" } : Jvm.MethodName) jdk_41_method_11_code (3 : Nat) (Option.some Jvm.ClassFile.FieldType.int)).before args0 about1 = true := code_word (m := ⟨11, 1⟩) (meth := k11m1) (c := k11c1) (by decide +kernel) rfl rfl rfl (by decide +kernel)
set_option maxRecDepth 65536 in
theorem w_c17 : (Jvm.Cond.code ({ cls := "java/lang/StringUTF16", name := "toBytes", desc := "([CII)[B" } : Jvm.MethodName) jdk_52_method_14_code (5 : Nat) (Option.some (Jvm.ClassFile.FieldType.array Jvm.ClassFile.FieldType.byte))).before args0 about1 = true := code_word (m := ⟨9, 6⟩) (meth := k9m6) (c := k9c6) (by decide +kernel) rfl rfl rfl (by decide +kernel)
set_option maxRecDepth 65536 in
theorem w_c18 : (Jvm.Cond.code ({ cls := "java/lang/StringUTF16", name := "newBytesFor", desc := "(I)[B" } : Jvm.MethodName) jdk_52_method_2_code (1 : Nat) (Option.some (Jvm.ClassFile.FieldType.array Jvm.ClassFile.FieldType.byte))).before args0 about1 = true := code_word (m := ⟨9, 1⟩) (meth := k9m1) (c := k9c1) (by decide +kernel) rfl rfl rfl (by decide +kernel)
set_option maxRecDepth 65536 in
theorem w_c19 : (Jvm.Cond.code ({ cls := "java/lang/StringUTF16", name := "newBytesLength", desc := "(I)I" } : Jvm.MethodName) jdk_52_method_3_code (1 : Nat) (Option.some Jvm.ClassFile.FieldType.int)).before args0 about1 = true := code_word (m := ⟨9, 2⟩) (meth := k9m2) (c := k9c2) (by decide +kernel) rfl rfl rfl (by decide +kernel)
set_option maxRecDepth 65536 in
theorem w_c20 : (Jvm.Cond.code ({ cls := "java/lang/StringUTF16", name := "putChar", desc := "([BII)V" } : Jvm.MethodName) jdk_52_method_4_code (3 : Nat) (Option.none : Option Jvm.ClassFile.FieldType)).before args0 about1 = true := code_word (m := ⟨9, 3⟩) (meth := k9m3) (c := k9c3) (by decide +kernel) rfl rfl rfl (by decide +kernel)
set_option maxRecDepth 65536 in
theorem w_c21 : (Jvm.Cond.code ({ cls := "java/lang/StringUTF16", name := "getChar", desc := "([BI)C" } : Jvm.MethodName) jdk_52_method_5_code (2 : Nat) (Option.some Jvm.ClassFile.FieldType.char)).before args0 about1 = true := code_word (m := ⟨9, 4⟩) (meth := k9m4) (c := k9c4) (by decide +kernel) rfl rfl rfl (by decide +kernel)
set_option maxRecDepth 65536 in
theorem w_c22 : (Jvm.Cond.code ({ cls := "java/lang/StringUTF16", name := "charAt", desc := "([BI)C" } : Jvm.MethodName) jdk_52_method_83_code (2 : Nat) (Option.some Jvm.ClassFile.FieldType.char)).before args0 about1 = true := code_word (m := ⟨9, 11⟩) (meth := k9m11) (c := k9c11) (by decide +kernel) rfl rfl rfl (by decide +kernel)
set_option maxRecDepth 65536 in
theorem w_c23 : (Jvm.Cond.code ({ cls := "java/lang/StringUTF16", name := "checkIndex", desc := "(I[B)V" } : Jvm.MethodName) jdk_52_method_91_code (2 : Nat) (Option.none : Option Jvm.ClassFile.FieldType)).before args0 about1 = true := code_word (m := ⟨9, 12⟩) (meth := k9m12) (c := k9c12) (by decide +kernel) rfl rfl rfl (by decide +kernel)
set_option maxRecDepth 65536 in
theorem w_c24 : (Jvm.Cond.code ({ cls := "java/lang/StringUTF16", name := "length", desc := "([B)I" } : Jvm.MethodName) jdk_52_method_6_code (1 : Nat) (Option.some Jvm.ClassFile.FieldType.int)).before args0 about1 = true := code_word (m := ⟨9, 5⟩) (meth := k9m5) (c := k9c5) (by decide +kernel) rfl rfl rfl (by decide +kernel)
set_option maxRecDepth 65536 in
theorem w_c25 : (Jvm.Cond.code ({ cls := "java/lang/String", name := "valueOf", desc := "(C)Ljava/lang/String;" } : Jvm.MethodName) jdk_42_method_139_code (1 : Nat) (Option.some (Jvm.ClassFile.FieldType.object "java/lang/String"))).before args0 about1 = true := code_word (m := ⟨7, 4⟩) (meth := k7m4) (c := k7c4) (by decide +kernel) rfl rfl rfl (by decide +kernel)
set_option maxRecDepth 65536 in
theorem w_c26 : (Jvm.Cond.code ({ cls := "java/lang/StringLatin1", name := "canEncode", desc := "(C)Z" } : Jvm.MethodName) jdk_43_method_3_code (1 : Nat) (Option.some Jvm.ClassFile.FieldType.boolean)).before args0 about1 = true := code_word (m := ⟨10, 2⟩) (meth := k10m2) (c := k10c2) (by decide +kernel) rfl rfl rfl (by decide +kernel)
set_option maxRecDepth 65536 in
theorem w_c27 : (Jvm.Cond.code ({ cls := "java/lang/StringLatin1", name := "toBytes", desc := "(C)[B" } : Jvm.MethodName) jdk_43_method_46_code (1 : Nat) (Option.some (Jvm.ClassFile.FieldType.array Jvm.ClassFile.FieldType.byte))).before args0 about1 = true := code_word (m := ⟨10, 3⟩) (meth := k10m3) (c := k10c3) (by decide +kernel) rfl rfl rfl (by decide +kernel)
set_option maxRecDepth 65536 in
theorem w_c28 : (Jvm.Cond.code ({ cls := "java/lang/String", name := "<init>", desc := "([BB)V" } : Jvm.MethodName) jdk_42_method_151_code (3 : Nat) (Option.none : Option Jvm.ClassFile.FieldType)).before args0 about1 = true := code_word (m := ⟨7, 6⟩) (meth := k7m6) (c := k7c6) (by decide +kernel) rfl rfl rfl (by decide +kernel)
set_option maxRecDepth 65536 in
theorem w_c29 : (Jvm.Cond.code ({ cls := "java/lang/StringUTF16", name := "toBytes", desc := "(C)[B" } : Jvm.MethodName) jdk_52_method_24_code (2 : Nat) (Option.some (Jvm.ClassFile.FieldType.array Jvm.ClassFile.FieldType.byte))).before args0 about1 = true := code_word (m := ⟨9, 10⟩) (meth := k9m10) (c := k9c10) (by decide +kernel) rfl rfl rfl (by decide +kernel)
def codes1 : List Jvm.Cond := [Jvm.Cond.code x code maxLocals ret, Jvm.Cond.code ({ cls := "java/lang/String", name := "<init>", desc := "([C)V" } : Jvm.MethodName) jdk_42_method_3_code (2 : Nat) (Option.none : Option Jvm.ClassFile.FieldType), Jvm.Cond.code ({ cls := "java/lang/String", name := "<init>", desc := "([CIILjava/lang/Void;)V" } : Jvm.MethodName) jdk_42_method_149_code (6 : Nat) (Option.none : Option Jvm.ClassFile.FieldType), Jvm.Cond.code ({ cls := "java/lang/Object", name := "<init>", desc := "()V" } : Jvm.MethodName) object_method_1_code (1 : Nat) (Option.none : Option Jvm.ClassFile.FieldType), Jvm.Cond.code ({ cls := "com/example/ocotillo/ocotillo/store/MessageIndexHashPinLaw", name := "fmix64", desc := "(J)J" } : Jvm.MethodName) method_3_code (2 : Nat) (Option.some Jvm.ClassFile.FieldType.long), Jvm.Cond.code ({ cls := "com/example/ocotillo/ocotillo/store/MessageIndex", name := "hash", desc := "(Ljava/lang/String;)I" } : Jvm.MethodName) prog_21_method_10_code (4 : Nat) (Option.some Jvm.ClassFile.FieldType.int), Jvm.Cond.code ({ cls := "java/lang/String", name := "length", desc := "()I" } : Jvm.MethodName) jdk_42_method_54_code (1 : Nat) (Option.some Jvm.ClassFile.FieldType.int), Jvm.Cond.code ({ cls := "java/lang/String", name := "coder", desc := "()B" } : Jvm.MethodName) jdk_42_method_152_code (1 : Nat) (Option.some Jvm.ClassFile.FieldType.byte), Jvm.Cond.code ({ cls := "java/lang/StringUTF16", name := "compress", desc := "([CII)[B" } : Jvm.MethodName) jdk_52_method_16_code (6 : Nat) (Option.some (Jvm.ClassFile.FieldType.array Jvm.ClassFile.FieldType.byte)), Jvm.Cond.code ({ cls := "java/lang/StringUTF16", name := "compress", desc := "([CI[BII)I" } : Jvm.MethodName) jdk_52_method_21_code (7 : Nat) (Option.some Jvm.ClassFile.FieldType.int), Jvm.Cond.code ({ cls := "java/lang/StringUTF16", name := "coderFromArrayLen", desc := "([BI)B" } : Jvm.MethodName) jdk_52_method_15_code (2 : Nat) (Option.some Jvm.ClassFile.FieldType.byte), Jvm.Cond.code ({ cls := "com/example/ocotillo/ocotillo/store/MessageIndexHashPinLaw", name := "fnvStep", desc := "(JC)J" } : Jvm.MethodName) method_2_code (3 : Nat) (Option.some Jvm.ClassFile.FieldType.long), Jvm.Cond.code ({ cls := "java/lang/String", name := "charAt", desc := "(I)C" } : Jvm.MethodName) jdk_42_method_56_code (2 : Nat) (Option.some Jvm.ClassFile.FieldType.char), Jvm.Cond.code ({ cls := "java/lang/String", name := "isLatin1", desc := "()Z" } : Jvm.MethodName) jdk_42_method_154_code (1 : Nat) (Option.some Jvm.ClassFile.FieldType.boolean), Jvm.Cond.code ({ cls := "java/lang/StringLatin1", name := "charAt", desc := "([BI)C" } : Jvm.MethodName) jdk_43_method_2_code (2 : Nat) (Option.some Jvm.ClassFile.FieldType.char), Jvm.Cond.code ({ cls := "java/lang/String", name := "checkIndex", desc := "(II)V" } : Jvm.MethodName) jdk_42_method_155_code (2 : Nat) (Option.none : Option Jvm.ClassFile.FieldType), Jvm.Cond.code ({ cls := "jdk/internal/util/Preconditions", name := "checkIndex", desc := "(IILjava/util/function/BiFunction;)I" } : Jvm.MethodName) jdk_41_method_11_code (3 : Nat) (Option.some Jvm.ClassFile.FieldType.int), Jvm.Cond.code ({ cls := "java/lang/StringUTF16", name := "toBytes", desc := "([CII)[B" } : Jvm.MethodName) jdk_52_method_14_code (5 : Nat) (Option.some (Jvm.ClassFile.FieldType.array Jvm.ClassFile.FieldType.byte)), Jvm.Cond.code ({ cls := "java/lang/StringUTF16", name := "newBytesFor", desc := "(I)[B" } : Jvm.MethodName) jdk_52_method_2_code (1 : Nat) (Option.some (Jvm.ClassFile.FieldType.array Jvm.ClassFile.FieldType.byte)), Jvm.Cond.code ({ cls := "java/lang/StringUTF16", name := "newBytesLength", desc := "(I)I" } : Jvm.MethodName) jdk_52_method_3_code (1 : Nat) (Option.some Jvm.ClassFile.FieldType.int), Jvm.Cond.code ({ cls := "java/lang/StringUTF16", name := "putChar", desc := "([BII)V" } : Jvm.MethodName) jdk_52_method_4_code (3 : Nat) (Option.none : Option Jvm.ClassFile.FieldType), Jvm.Cond.code ({ cls := "java/lang/StringUTF16", name := "getChar", desc := "([BI)C" } : Jvm.MethodName) jdk_52_method_5_code (2 : Nat) (Option.some Jvm.ClassFile.FieldType.char), Jvm.Cond.code ({ cls := "java/lang/StringUTF16", name := "charAt", desc := "([BI)C" } : Jvm.MethodName) jdk_52_method_83_code (2 : Nat) (Option.some Jvm.ClassFile.FieldType.char), Jvm.Cond.code ({ cls := "java/lang/StringUTF16", name := "checkIndex", desc := "(I[B)V" } : Jvm.MethodName) jdk_52_method_91_code (2 : Nat) (Option.none : Option Jvm.ClassFile.FieldType), Jvm.Cond.code ({ cls := "java/lang/StringUTF16", name := "length", desc := "([B)I" } : Jvm.MethodName) jdk_52_method_6_code (1 : Nat) (Option.some Jvm.ClassFile.FieldType.int), Jvm.Cond.code ({ cls := "java/lang/String", name := "valueOf", desc := "(C)Ljava/lang/String;" } : Jvm.MethodName) jdk_42_method_139_code (1 : Nat) (Option.some (Jvm.ClassFile.FieldType.object "java/lang/String")), Jvm.Cond.code ({ cls := "java/lang/StringLatin1", name := "canEncode", desc := "(C)Z" } : Jvm.MethodName) jdk_43_method_3_code (1 : Nat) (Option.some Jvm.ClassFile.FieldType.boolean), Jvm.Cond.code ({ cls := "java/lang/StringLatin1", name := "toBytes", desc := "(C)[B" } : Jvm.MethodName) jdk_43_method_46_code (1 : Nat) (Option.some (Jvm.ClassFile.FieldType.array Jvm.ClassFile.FieldType.byte)), Jvm.Cond.code ({ cls := "java/lang/String", name := "<init>", desc := "([BB)V" } : Jvm.MethodName) jdk_42_method_151_code (3 : Nat) (Option.none : Option Jvm.ClassFile.FieldType), Jvm.Cond.code ({ cls := "java/lang/StringUTF16", name := "toBytes", desc := "(C)[B" } : Jvm.MethodName) jdk_52_method_24_code (2 : Nat) (Option.some (Jvm.ClassFile.FieldType.array Jvm.ClassFile.FieldType.byte))]
set_option maxRecDepth 65536 in
theorem codes_eq : words1.filter isCode = codes1 := rfl
theorem w_codes : ∀ c ∈ words1.filter isCode, c.before args0 about1 = true := by
  rw [codes_eq]
  intro c hc
  simp only [codes1, List.mem_cons, List.not_mem_nil, or_false] at hc
  rcases hc with rfl | rfl | rfl | rfl | rfl | rfl | rfl | rfl | rfl | rfl | rfl | rfl | rfl | rfl | rfl | rfl | rfl | rfl | rfl | rfl | rfl | rfl | rfl | rfl | rfl | rfl | rfl | rfl | rfl | rfl
  · exact w_c0
  · exact w_c1
  · exact w_c2
  · exact w_c3
  · exact w_c4
  · exact w_c5
  · exact w_c6
  · exact w_c7
  · exact w_c8
  · exact w_c9
  · exact w_c10
  · exact w_c11
  · exact w_c12
  · exact w_c13
  · exact w_c14
  · exact w_c15
  · exact w_c16
  · exact w_c17
  · exact w_c18
  · exact w_c19
  · exact w_c20
  · exact w_c21
  · exact w_c22
  · exact w_c23
  · exact w_c24
  · exact w_c25
  · exact w_c26
  · exact w_c27
  · exact w_c28
  · exact w_c29
set_option maxRecDepth 65536 in
theorem w_t1 : (words1.take 24).all (fun c => isCode c || c.before args0 about1) = true := by decide +kernel
set_option maxRecDepth 65536 in
theorem w_t2 : ((words1.drop 24).take 24).all (fun c => isCode c || c.before args0 about1) = true := by decide +kernel
set_option maxRecDepth 65536 in
theorem w_t3 : (((words1.drop 24).drop 24).take 24).all (fun c => isCode c || c.before args0 about1) = true := by decide +kernel
set_option maxRecDepth 65536 in
theorem w_t4 : ((((words1.drop 24).drop 24).drop 24).take 24).all (fun c => isCode c || c.before args0 about1) = true := by decide +kernel
set_option maxRecDepth 65536 in
theorem w_t5 : (((((words1.drop 24).drop 24).drop 24).drop 24).take 24).all (fun c => isCode c || c.before args0 about1) = true := by decide +kernel
set_option maxRecDepth 65536 in
theorem w_t6 : (((((words1.drop 24).drop 24).drop 24).drop 24).drop 24).all (fun c => isCode c || c.before args0 about1) = true := by decide +kernel
theorem w_tables : (allAtoms (Jvm.Cond.code x code maxLocals ret :: tables_1)).before args0 about1 = true := by
  rw [allAtoms_all]
  show words1.all (fun c => c.before args0 about1) = true
  refine all_split ?_ w_codes
  rw [← List.take_append_drop 24 words1, List.all_append, w_t1, ← List.take_append_drop 24 (words1.drop 24), List.all_append, w_t2, ← List.take_append_drop 24 ((words1.drop 24).drop 24), List.all_append, w_t3, ← List.take_append_drop 24 (((words1.drop 24).drop 24).drop 24), List.all_append, w_t4, ← List.take_append_drop 24 ((((words1.drop 24).drop 24).drop 24).drop 24), List.all_append, w_t5, w_t6]
  rfl
set_option maxRecDepth 65536 in
theorem w_rest : rest_1_c.before args0 about1 = true := by decide +kernel
set_option maxRecDepth 65536 in
theorem w_case : (Jvm.Cond.and given_1 narrow_1).before args0 about1 = true := by decide +kernel
set_option maxRecDepth 65536 in
theorem w_consts : constsHeld consts_1 about1 := Jvm.Lit.constsHeldB_iff.mp (by decide +kernel)
theorem w_applies : (headSpec (Jvm.Cond.code x code maxLocals ret :: tables_1) room_1).applies x e0.platform about1 = true :=
  (Spec.applies_iff w_frames).mpr ⟨w_running, w_runnable, w_alone, w_named, w_hears, w_ripe, w_room, w_tables⟩
theorem atStart : AtStart classFile x code maxLocals ret World_1 tables_1 room_1 Calls_1 rest_1 Pre_1 launch0 p0 e0 about1 theMethod args0 below0 :=
  ⟨lists_1, trivial, launch0.admits_env _ _ _, launch0.least_env, fairChoices_fair.cas, fairChoices_fair.clock, w_frames, w_args, w_heap, w_applies, ⟨w_consts, trivial⟩, w_rest, w_case⟩
end start1
theorem witness_1 : WitnessClaimed_1 := ⟨start1.p0, start1.e0, start1.about1, start1.theMethod, start1.args0, start1.below0, start1.atStart⟩
end Jvm.Pilot.@@N@@
