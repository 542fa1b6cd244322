import JvmDerived
import JvmDerived.Pilot.@@N@@Statement
import JvmDerived.Pilot.@@N@@Code
set_option linter.unusedVariables false
set_option linter.unusedSimpArgs false
/- laws to paste: Road.backV, Road.lenW, Road.chN, Road.codOf, lo8_inj (cut by pick.py; bodies as the Statement names them) -/
namespace Jvm.Pilot.@@N@@
namespace StrChars
open Jvm Sem ClassFile Op Lib Jvm.Stand Jvm.Free.XT Jvm.Free.ALB Jvm.Free.JM Jvm.Free
open Jvm.Lib.Cold (StaticIs)
/-- a char array whose places are chars -/
def Ch (a : Addr) (A : Cell) (U : State) : Prop := Arr .char a A U ∧ Typed .char A
theorem Ch.mv {a : Addr} {A : Cell} {U U' : State} (h : Ch a A U) (hal : U.vm.Alike U'.vm) (hh : U'.heap = U.heap) : Ch a A U' := ⟨h.1.mv hal hh, h.2⟩
theorem Ch.keep {a : Addr} {A : Cell} {U U' : State} (h : Ch a A U) (hal : U.vm.Alike U'.vm) (hk : U'.heap[a]? = some A) : Ch a A U' := ⟨h.1.keep hal hk, h.2⟩
/-- what place i of a char[]'s cell holds -/
def cv (A : Cell) (i : Nat) : Int32 := match A.slots[i]? with | some (.int x) => x | _ => 0
theorem Ch.get {a : Addr} {A : Cell} {U : State} (h : Ch a A U) {i : Nat} (hi : i < A.slots.size) : A.slots[i]? = some (.int (cv A i)) := by
  have e := Array.getElem?_eq_getElem hi
  have f := h.2 i _ e
  unfold cv; rw [e]
  generalize A.slots[i] = v at f
  cases v <;> simp [fits] at f ⊢
/-- the byte that i2b leaves of a char -/
def lo8 (x : Int32) : Int32 := x.toInt8.toInt32
theorem fits_lo8 (y : Int32) : fits .byte (.int (lo8 y)) = true := by
  have h1 := y.toInt8.le_toInt
  have h2 := y.toInt8.toInt_lt
  simp only [lo8, fits, Bool.and_eq_true, decide_eq_true_eq, Int32.le_iff_toInt_le, Int8.toInt_toInt32, show (-128 : Int32).toInt = -128 from by decide, show (127 : Int32).toInt = 127 from by decide]
  omega
/-- A' is A but that each place j of lo .. hi - 1 holds f j -/
def Laid (A A' : Cell) (lo hi : Nat) (f : Nat → Value) : Prop := A'.cls = A.cls ∧ A'.vm = A.vm ∧ A'.slots.size = A.slots.size ∧ ∀ i, A'.slots[i]? = if lo ≤ i ∧ i < hi then some (f i) else A.slots[i]?
theorem Laid.zero (A : Cell) (lo : Nat) (f : Nat → Value) : Laid A A lo (lo + 0) f := ⟨rfl, rfl, rfl, fun i => by rw [if_neg (by omega)]⟩
theorem Laid.step {A Ak : Cell} {lo k : Nat} {f : Nat → Value} {v : Value} (h : Laid A Ak lo k f) (hlo : lo ≤ k) (hk : k < Ak.slots.size) (hv : v = f k) : Laid A (Ak.setSlot k v) lo (k + 1) f := by
  refine ⟨h.1, h.2.1, by simpa [Cell.setSlot] using h.2.2.1, fun i => ?_⟩
  by_cases e : k = i
  · subst e; rw [Cell.slots_setSlot_self v hk, if_pos (by omega), hv]
  · rw [Cell.slots_setSlot_ne v e, h.2.2.2 i]
    by_cases q : lo ≤ i ∧ i < k
    · rw [if_pos q, if_pos (by omega)]
    · rw [if_neg q, if_neg (by omega)]
def U16 : String := "java/lang/StringUTF16"
namespace Cmp5
def yN : MethodName := ⟨"java/lang/StringUTF16", "compress", "([CI[BII)I"⟩
abbrev yB : ByteArray := jdk_52_method_21_code
theorem d0 : decode yB 0 = .ok (.iconst 0, 1) := by decide +kernel
theorem d1 : decode yB 1 = .ok (.istore 5, 2) := by decide +kernel
theorem d3 : decode yB 3 = .ok (.iload 5, 2) := by decide +kernel
theorem d5 : decode yB 5 = .ok (.iload 4, 2) := by decide +kernel
theorem d7 : decode yB 7 = .ok (.if_icmp (.ge) 37, 3) := by decide +kernel
theorem d10 : decode yB 10 = .ok (.aload_n 0, 1) := by decide +kernel
theorem d11 : decode yB 11 = .ok (.iload_n 1, 1) := by decide +kernel
theorem d12 : decode yB 12 = .ok (.caload, 1) := by decide +kernel
theorem d13 : decode yB 13 = .ok (.istore 6, 2) := by decide +kernel
theorem d15 : decode yB 15 = .ok (.iload 6, 2) := by decide +kernel
theorem d17 : decode yB 17 = .ok (.sipush 255, 3) := by decide +kernel
theorem d20 : decode yB 20 = .ok (.if_icmp (.le) 6, 3) := by decide +kernel
theorem d26 : decode yB 26 = .ok (.aload_n 2, 1) := by decide +kernel
theorem d27 : decode yB 27 = .ok (.iload_n 3, 1) := by decide +kernel
theorem d28 : decode yB 28 = .ok (.iload 6, 2) := by decide +kernel
theorem d30 : decode yB 30 = .ok (.i2b, 1) := by decide +kernel
theorem d31 : decode yB 31 = .ok (.bastore, 1) := by decide +kernel
theorem d32 : decode yB 32 = .ok (.iinc 1 1, 3) := by decide +kernel
theorem d35 : decode yB 35 = .ok (.iinc 3 1, 3) := by decide +kernel
theorem d38 : decode yB 38 = .ok (.iinc 5 1, 3) := by decide +kernel
theorem d41 : decode yB 41 = .ok (.goto (-38), 3) := by decide +kernel
theorem d44 : decode yB 44 = .ok (.iload 4, 2) := by decide +kernel
theorem d46 : decode yB 46 = .ok (.ireturn, 1) := by decide +kernel
def site : List Cond := []
def tab : Cond := tabOf yN yB 7 (some .int) site
def P (b : Addr) (A : Cell) (d : Addr) (B : Cell) (o q len : Nat) (args : Array Value) (s : State) : Prop := args = #[.ref b, .int (Int32.ofNat o), .ref d, .int (Int32.ofNat q), .int (Int32.ofNat len)] ∧ Ch b A s ∧ Arr .byte d B s ∧ b ≠ d ∧ o + len ≤ A.slots.size ∧ q + len ≤ B.slots.size ∧ ∀ i, i < len → ¬ 255 < cv A (o + i)
def E (b : Addr) (A : Cell) (d : Addr) (B : Cell) (o q len : Nat) (r : Option Value) (s u : State) : Prop := r = some (.int (Int32.ofNat len)) ∧ ∃ B', Put d B' s u ∧ Laid B B' q (q + len) (fun j => Value.int (lo8 (cv A (o + (j - q)))))
/-- no char of the range above 255: len; the places written hold each char's low byte -/
theorem law (l : Launch) (b : Addr) (A : Cell) (d : Addr) (B : Cell) (o q len : Nat) : Law l yN 5 5 0 0 yB 7 (some .int) site (P b A d B o q len) (E b A d B o q len) (copyLocs d q len) 0 0 := by
  refine Law.of_walk (plainFor_of_name (by decide +kernel)) (by decide +kernel) (by decide +kernel) (by decide) (fun _ _ h => by rw [h.1]; rfl) (fun _ U U' hal hh h => ⟨h.1, h.2.1.mv hal hh, h.2.2.1.mv hal hh, h.2.2.2⟩) (fun r U U' V V' h1 hal h2 h => ⟨h.1, h.2.elim fun B' q => ⟨B', q.1.mv h1 h2, q.2⟩⟩) ?_
  intro p e s m args below meth c s₁ X0 hexec hbytes hml hret hlk hnm hown hh0 W hP
  obtain ⟨rfl, hA, hB, hne, l1, l2, hp⟩ := hP
  have c1 : Steps p.tables e below (s₁.setTop (entryFrame m #[.ref b, .int (Int32.ofNat o), .ref d, .int (Int32.ofNat q), .int (Int32.ofNat len)] 7)) (s₁.setTop (mkF m 0 #[.val (.ref b), .val (.int (Int32.ofNat o)), .val (.ref d), .val (.int (Int32.ofNat q)), .val (.int (Int32.ofNat len)), .unset, .unset] [])) := entry rfl
  have hA0 := hA.1.mv X0.warmed.alike hh0
  have hB0 := hB.mv X0.warmed.alike hh0
  have a31 := hA.1.2.2.2
  have c2 : Steps p.tables e below (s₁.setTop (entryFrame m #[.ref b, .int (Int32.ofNat o), .ref d, .int (Int32.ofNat q), .int (Int32.ofNat len)] 7)) (s₁.setTop (mkF m 3 #[.val (.ref b), .val (.int (Int32.ofNat o)), .val (.ref d), .val (.int (Int32.ofNat q)), .val (.int (Int32.ofNat len)), .val (.int 0), .unset] [])) := c1.trans (by
    refine iconstV X0.here hexec rfl 0 (hb hbytes d0) (by decide) ?_
    refine XS.istore X0.here hexec rfl (hb hbytes d1) rfl rfl ?_
    exact Steps.refl _)
  have loop : ∀ (r i : Nat), i + r = len → ∀ (z : Slot), (z = .unset ∨ ∃ w, z = .val w ∧ w.category = 1) → ∀ (Tl : State) (Bk : Cell), Stand p l e { frames := 0, locals := 0, cells := 0, slots := 0 } s m #[.ref b, .int (Int32.ofNat o), .ref d, .int (Int32.ofNat q), .int (Int32.ofNat len)] below meth c Tl ([] ++ copyLocs d q i) 0 0 → Put d Bk s₁ Tl → Laid B Bk q (q + i) (fun j => Value.int (lo8 (cv A (o + (j - q))))) →
      Steps p.tables e below (s₁.setTop (entryFrame m #[.ref b, .int (Int32.ofNat o), .ref d, .int (Int32.ofNat q), .int (Int32.ofNat len)] 7)) (Tl.setTop (mkF m 3 #[.val (.ref b), .val (.int (Int32.ofNat (o + i))), .val (.ref d), .val (.int (Int32.ofNat (q + i))), .val (.int (Int32.ofNat len)), .val (.int (Int32.ofNat i)), z] [])) → ∃ (T' : State) (B' : Cell) (z' : Slot), Stand p l e { frames := 0, locals := 0, cells := 0, slots := 0 } s m #[.ref b, .int (Int32.ofNat o), .ref d, .int (Int32.ofNat q), .int (Int32.ofNat len)] below meth c T' ([] ++ copyLocs d q len) 0 0 ∧ Put d B' s₁ T' ∧ Laid B B' q (q + len) (fun j => Value.int (lo8 (cv A (o + (j - q))))) ∧
      Steps p.tables e below (s₁.setTop (entryFrame m #[.ref b, .int (Int32.ofNat o), .ref d, .int (Int32.ofNat q), .int (Int32.ofNat len)] 7)) (T'.setTop (mkF m 3 #[.val (.ref b), .val (.int (Int32.ofNat (o + len))), .val (.ref d), .val (.int (Int32.ofNat (q + len))), .val (.int (Int32.ofNat len)), .val (.int (Int32.ofNat len)), z'] [])) := by
    intro r
    induction r with
    | zero =>
      intro i hi z hz Tl Bk Xl pl fl cl
      have hil : i = len := by omega
      rw [hil] at Xl fl cl
      exact ⟨Tl, Bk, z, Xl, pl, fl, cl⟩
    | succ r ih =>
      intro i hi z hz Tl Bk Xl pl fl cl
      have all := X0.warmed.alike.symm.trans Xl.warmed.alike
      have hAl := hA0.keep all (pl.other hne hA0.1)
      have hBk := hB0.like all pl.1 fl.1 fl.2.1 fl.2.2.1
      have hlt : q + i < Bk.slots.size := by rw [fl.2.2.1]; omega
      have c3 : Steps p.tables e below (s₁.setTop (entryFrame m #[.ref b, .int (Int32.ofNat o), .ref d, .int (Int32.ofNat q), .int (Int32.ofNat len)] 7)) (Tl.setTop (mkF m 12 #[.val (.ref b), .val (.int (Int32.ofNat (o + i))), .val (.ref d), .val (.int (Int32.ofNat (q + i))), .val (.int (Int32.ofNat len)), .val (.int (Int32.ofNat i)), z] [.int (Int32.ofNat (o + i)), .ref b])) := cl.trans (by
        refine XS.iload Xl.here hexec rfl (hb hbytes d3) rfl ?_
        refine XS.iload Xl.here hexec rfl (hb hbytes d5) rfl ?_
        refine XS.icmpNo Xl.here hexec rfl (hb hbytes d7) rfl (ii_ge_f (lt32 (by omega) (by omega))) ?_
        refine XS.aloadN Xl.here hexec rfl (hb hbytes d10) rfl rfl ?_
        refine XS.iloadN Xl.here hexec rfl (hb hbytes d11) rfl ?_
        exact Steps.refl _)
      have c4 : Steps p.tables e below (s₁.setTop (entryFrame m #[.ref b, .int (Int32.ofNat o), .ref d, .int (Int32.ofNat q), .int (Int32.ofNat len)] 7)) (Tl.setTop (mkF m 13 #[.val (.ref b), .val (.int (Int32.ofNat (o + i))), .val (.ref d), .val (.int (Int32.ofNat (q + i))), .val (.int (Int32.ofNat len)), .val (.int (Int32.ofNat i)), z] [.int (cv A (o + i))])) := c3.trans (by
        refine Xl.aget hexec hAl rfl (hA.get (i := o + i) (by omega)) rfl rfl (hb hbytes d12) ?_
        exact Steps.refl _)
      have c5 : Steps p.tables e below (s₁.setTop (entryFrame m #[.ref b, .int (Int32.ofNat o), .ref d, .int (Int32.ofNat q), .int (Int32.ofNat len)] 7)) (Tl.setTop (mkF m 15 #[.val (.ref b), .val (.int (Int32.ofNat (o + i))), .val (.ref d), .val (.int (Int32.ofNat (q + i))), .val (.int (Int32.ofNat len)), .val (.int (Int32.ofNat i)), .val (.int (cv A (o + i)))] [])) := c4.trans (by
        refine XS.istoreS Xl.here hexec rfl (hb hbytes d13) rfl rfl hz ?_
        exact Steps.refl _)
      have c6 : Steps p.tables e below (s₁.setTop (entryFrame m #[.ref b, .int (Int32.ofNat o), .ref d, .int (Int32.ofNat q), .int (Int32.ofNat len)] 7)) (Tl.setTop (mkF m 31 #[.val (.ref b), .val (.int (Int32.ofNat (o + i))), .val (.ref d), .val (.int (Int32.ofNat (q + i))), .val (.int (Int32.ofNat len)), .val (.int (Int32.ofNat i)), .val (.int (cv A (o + i)))] [.int (lo8 (cv A (o + i))), .int (Int32.ofNat (q + i)), .ref d])) := c5.trans (by
        refine XS.iload Xl.here hexec rfl (hb hbytes d15) rfl ?_
        refine sipushV Xl.here hexec rfl 255 (hb hbytes d17) (by decide) ?_
        refine XS.icmpYes Xl.here hexec rfl (pc0 := 20) rfl (hb hbytes d20) rfl (ii_le_t (hp i (by omega))) (by decide) rfl ?_
        refine XS.aloadN Xl.here hexec rfl (hb hbytes d26) rfl rfl ?_
        refine XS.iloadN Xl.here hexec rfl (hb hbytes d27) rfl ?_
        refine XS.iload Xl.here hexec rfl (hb hbytes d28) rfl ?_
        refine i2b Xl.here hexec rfl (hb hbytes d30) rfl ?_
        exact Steps.refl _)
      obtain ⟨T7, X7, p7, st7⟩ := Xl.aput hexec hBk rfl hlt rfl (fits_lo8 (cv A (o + i))) (g := (mkF m 31 #[.val (.ref b), .val (.int (Int32.ofNat (o + i))), .val (.ref d), .val (.int (Int32.ofNat (q + i))), .val (.int (Int32.ofNat len)), .val (.int (Int32.ofNat i)), .val (.int (cv A (o + i)))] [.int (lo8 (cv A (o + i))), .int (Int32.ofNat (q + i)), .ref d])) rfl (rest := []) rfl (hb hbytes d31)
      have c8 : Steps p.tables e below (s₁.setTop (entryFrame m #[.ref b, .int (Int32.ofNat o), .ref d, .int (Int32.ofNat q), .int (Int32.ofNat len)] 7)) (T7.setTop (mkF m 32 #[.val (.ref b), .val (.int (Int32.ofNat (o + i))), .val (.ref d), .val (.int (Int32.ofNat (q + i))), .val (.int (Int32.ofNat len)), .val (.int (Int32.ofNat i)), .val (.int (cv A (o + i)))] [])) := c6.trans (st7 _ (Steps.refl _))
      have c9 : Steps p.tables e below (s₁.setTop (entryFrame m #[.ref b, .int (Int32.ofNat o), .ref d, .int (Int32.ofNat q), .int (Int32.ofNat len)] 7)) (T7.setTop (mkF m 3 #[.val (.ref b), .val (.int (Int32.ofNat (o + i) + 1)), .val (.ref d), .val (.int (Int32.ofNat (q + i) + 1)), .val (.int (Int32.ofNat len)), .val (.int (Int32.ofNat i + 1)), .val (.int (cv A (o + i)))] [])) := c8.trans (by
        refine iincV X7.here hexec rfl 1 (hb hbytes d32) (by decide) rfl rfl ?_
        refine iincV X7.here hexec rfl 1 (hb hbytes d35) (by decide) rfl rfl ?_
        refine iincV X7.here hexec rfl 1 (hb hbytes d38) (by decide) rfl rfl ?_
        refine XS.goto X7.here hexec rfl (pc0 := 41) rfl (hb hbytes d41) (by decide) rfl ?_
        exact Steps.refl _)
      have c10 : Steps p.tables e below (s₁.setTop (entryFrame m #[.ref b, .int (Int32.ofNat o), .ref d, .int (Int32.ofNat q), .int (Int32.ofNat len)] 7)) (T7.setTop (mkF m 3 #[.val (.ref b), .val (.int (Int32.ofNat (o + (i + 1)))), .val (.ref d), .val (.int (Int32.ofNat (q + (i + 1)))), .val (.int (Int32.ofNat len)), .val (.int (Int32.ofNat (i + 1))), .val (.int (cv A (o + i)))] [])) := by
        have := c9
        rw [succ32, succ32, succ32] at this
        exact this
      exact ih (i + 1) (by omega) _ (Or.inr ⟨_, rfl, rfl⟩) T7 _ (by rw [copyLocs_step, ← List.append_assoc]; exact X7) (pl.trans p7) (fl.step (by omega) hlt (by simp)) c10
  obtain ⟨T9, B9, z9, X9, p9, f9, g9⟩ := loop len 0 (by omega) .unset (Or.inl rfl) s₁ B (by simpa [copyLocs] using X0) ⟨hB0.1, fun _ _ => rfl, rfl⟩ (Laid.zero _ _ _) c2
  have c11 : Steps p.tables e below (s₁.setTop (entryFrame m #[.ref b, .int (Int32.ofNat o), .ref d, .int (Int32.ofNat q), .int (Int32.ofNat len)] 7)) (T9.setTop (mkF m 46 #[.val (.ref b), .val (.int (Int32.ofNat (o + len))), .val (.ref d), .val (.int (Int32.ofNat (q + len))), .val (.int (Int32.ofNat len)), .val (.int (Int32.ofNat len)), z9] [.int (Int32.ofNat len)])) := g9.trans (by
    refine XS.iload X9.here hexec rfl (hb hbytes d3) rfl ?_
    refine XS.iload X9.here hexec rfl (hb hbytes d5) rfl ?_
    refine XS.icmpYes X9.here hexec rfl (pc0 := 7) rfl (hb hbytes d7) rfl (ii_ge_t (nlt32 (by omega) (Nat.le_refl _))) (by decide) rfl ?_
    refine XS.iload X9.here hexec rfl (hb hbytes d44) rfl ?_
    exact Steps.refl _)
  exact ⟨T9, some (.int (Int32.ofNat len)), _, _, _, X9, by simp, rfl, rfl, (fun h => by cases h), ⟨rfl, B9, p9.from hh0, f9⟩, fun fs hl => c11.trans (X9.ireturnOut hexec hret rfl (Or.inl rfl) (hb hbytes d46) hl)⟩
end Cmp5
namespace Cmp3
def yN : MethodName := ⟨"java/lang/StringUTF16", "compress", "([CII)[B"⟩
abbrev yB : ByteArray := jdk_52_method_16_code
theorem d0 : decode yB 0 = .ok (.iload_n 2, 1) := by decide +kernel
theorem d1 : decode yB 1 = .ok (.newarray .byte, 2) := by decide +kernel
theorem d3 : decode yB 3 = .ok (.astore_n 3, 1) := by decide +kernel
theorem d4 : decode yB 4 = .ok (.aload_n 0, 1) := by decide +kernel
theorem d5 : decode yB 5 = .ok (.iload_n 1, 1) := by decide +kernel
theorem d6 : decode yB 6 = .ok (.aload_n 3, 1) := by decide +kernel
theorem d7 : decode yB 7 = .ok (.iconst 0, 1) := by decide +kernel
theorem d8 : decode yB 8 = .ok (.iload_n 2, 1) := by decide +kernel
theorem d9 : decode yB 9 = .ok (.invokestatic 115, 3) := by decide +kernel
theorem d12 : decode yB 12 = .ok (.istore 4, 2) := by decide +kernel
theorem d14 : decode yB 14 = .ok (.iload 4, 2) := by decide +kernel
theorem d16 : decode yB 16 = .ok (.iload_n 2, 1) := by decide +kernel
theorem d17 : decode yB 17 = .ok (.if_icmp (.eq) 40, 3) := by decide +kernel
theorem d57 : decode yB 57 = .ok (.aload_n 3, 1) := by decide +kernel
theorem d58 : decode yB 58 = .ok (.areturn, 1) := by decide +kernel
def site : List Cond := [.arrayClass .byte, Cmp5.tab] ++ staticW U16 115 Cmp5.yN
def tab : Cond := tabOf yN yB 6 (some (.array .byte)) site
def P (b : Addr) (A : Cell) (o len : Nat) (args : Array Value) (s : State) : Prop := args = #[.ref b, .int (Int32.ofNat o), .int (Int32.ofNat len)] ∧ Ch b A s ∧ o + len ≤ A.slots.size ∧ len ≤ 536870912 ∧ ∀ i, i < len → ¬ 255 < cv A (o + i)
def E (b : Addr) (A : Cell) (o len : Nat) (r : Option Value) (s u : State) : Prop := NewArr .byte "[B" len (fun j => .int (lo8 (cv A (o + j)))) r s u ∧ u.heap.size = s.heap.size + 1
/-- no char of the range above 255: a new byte[] of their low bytes -/
theorem law (l : Launch) (b : Addr) (A : Cell) (o len : Nat) : Law l yN 3 3 1 18 yB 6 (some (.array .byte)) site (P b A o len) (E b A o len) [] 1 len := by
  refine Law.of_walk (plainFor_of_name (by decide +kernel)) (by decide +kernel) (by decide +kernel) (by decide) (fun _ _ h => by rw [h.1]; rfl) (fun _ U U' hal hh h => ⟨h.1, h.2.1.mv hal hh, h.2.2⟩) (fun r U U' V V' h1 hal h2 h => ⟨NewArr.mv r U U' V V' h1 hal h2 h.1, by rw [h1, h2]; exact h.2⟩) ?_
  intro p e s m args below meth c s₁ X0 hexec hbytes hml hret hlk hnm hown hh0 W hP
  obtain ⟨rfl, hA, l1, l2, hp⟩ := hP
  have a31 := hA.1.2.2.2
  have c1 : Steps p.tables e below (s₁.setTop (entryFrame m #[.ref b, .int (Int32.ofNat o), .int (Int32.ofNat len)] 6)) (s₁.setTop (mkF m 0 #[.val (.ref b), .val (.int (Int32.ofNat o)), .val (.int (Int32.ofNat len)), .unset, .unset, .unset] [])) := entry rfl
  have c2 : Steps p.tables e below (s₁.setTop (entryFrame m #[.ref b, .int (Int32.ofNat o), .int (Int32.ofNat len)] 6)) (s₁.setTop (mkF m 1 #[.val (.ref b), .val (.int (Int32.ofNat o)), .val (.int (Int32.ofNat len)), .unset, .unset, .unset] [.int (Int32.ofNat len)])) := c1.trans (by
    refine XS.iloadN X0.here hexec rfl (hb hbytes d0) rfl ?_
    exact Steps.refl _)
  obtain ⟨T3, B3, X3, ba3, bs3, bv3, bh3, bf3, st3⟩ := X0.anew hexec (atype := .byte) (wk W (.arrayClass .byte)) rfl (by show len * 1 ≤ _; omega) (by omega) (g := (mkF m 1 #[.val (.ref b), .val (.int (Int32.ofNat o)), .val (.int (Int32.ofNat len)), .unset, .unset, .unset] [.int (Int32.ofNat len)])) rfl (hb hbytes d1) (rest := []) rfl (Nat.le_refl _) (by show 0 + len ≤ len; omega)
  rw [hh0] at ba3 st3
  have kp3 : XT.Kept s T3 := (XT.Kept.of_eq hh0).push bh3
  have hA3 := hA.keep X3.warmed.alike (kp3 _ _ hA.1.1)
  have hne : b ≠ s.heap.size := hA.1.ne
  have c4 : Steps p.tables e below (s₁.setTop (entryFrame m #[.ref b, .int (Int32.ofNat o), .int (Int32.ofNat len)] 6)) (T3.setTop (mkF m 3 #[.val (.ref b), .val (.int (Int32.ofNat o)), .val (.int (Int32.ofNat len)), .unset, .unset, .unset] [.ref s.heap.size])) := c2.trans (st3 _ (Steps.refl _))
  have c5 : Steps p.tables e below (s₁.setTop (entryFrame m #[.ref b, .int (Int32.ofNat o), .int (Int32.ofNat len)] 6)) (T3.setTop (mkF m 9 #[.val (.ref b), .val (.int (Int32.ofNat o)), .val (.int (Int32.ofNat len)), .val (.ref s.heap.size), .unset, .unset] [.int (Int32.ofNat len), .int 0, .ref s.heap.size, .int (Int32.ofNat o), .ref b])) := c4.trans (by
    refine XS.astoreN X3.here hexec rfl (hb hbytes d3) rfl rfl rfl ?_
    refine XS.aloadN X3.here hexec rfl (hb hbytes d4) rfl rfl ?_
    refine XS.iloadN X3.here hexec rfl (hb hbytes d5) rfl ?_
    refine XS.aloadN X3.here hexec rfl (hb hbytes d6) rfl rfl ?_
    refine iconstV X3.here hexec rfl 0 (hb hbytes d7) (by decide) ?_
    refine XS.iloadN X3.here hexec rfl (hb hbytes d8) rfl ?_
    exact Steps.refl _)
  obtain ⟨v6, T6, X6, E6, g6⟩ := X3.callS hexec (Cmp5.law l b A s.heap.size B3 o 0 len) hown (wks W (staticW U16 115 Cmp5.yN)) (wk W Cmp5.tab) (W := 0) (Nat.le_of_ble_eq_true rfl) (Nat.le_of_ble_eq_true rfl) (Nat.le_refl _) (by show 0 + len + 0 ≤ len; omega) (g := (mkF m 9 #[.val (.ref b), .val (.int (Int32.ofNat o)), .val (.int (Int32.ofNat len)), .val (.ref s.heap.size), .unset, .unset] [.int (Int32.ofNat len), .int (Int32.ofNat 0), .ref s.heap.size, .int (Int32.ofNat o), .ref b])) rfl (by rw [hml]; rfl) c5 (argsL := [.ref b, .int (Int32.ofNat o), .ref s.heap.size, .int (Int32.ofNat 0), .int (Int32.ofNat len)]) (rest := []) rfl rfl (by show 2 * 0 + 0 ≤ _; decide) (hb hbytes d9) (⟨rfl, hA3, ba3, hne, l1, by rw [bs3]; simp, hp⟩)
  obtain ⟨rfl, B6, p6, f6⟩ := E6
  have c7 : Steps p.tables e below (s₁.setTop (entryFrame m #[.ref b, .int (Int32.ofNat o), .int (Int32.ofNat len)] 6)) (T6.setTop (mkF m 12 #[.val (.ref b), .val (.int (Int32.ofNat o)), .val (.int (Int32.ofNat len)), .val (.ref s.heap.size), .unset, .unset] [.int (Int32.ofNat len)])) := g6
  have c8 : Steps p.tables e below (s₁.setTop (entryFrame m #[.ref b, .int (Int32.ofNat o), .int (Int32.ofNat len)] 6)) (T6.setTop (mkF m 58 #[.val (.ref b), .val (.int (Int32.ofNat o)), .val (.int (Int32.ofNat len)), .val (.ref s.heap.size), .val (.int (Int32.ofNat len)), .unset] [.ref s.heap.size])) := c7.trans (by
    refine XS.istore X6.here hexec rfl (hb hbytes d12) rfl rfl ?_
    refine XS.iload X6.here hexec rfl (hb hbytes d14) rfl ?_
    refine XS.iloadN X6.here hexec rfl (hb hbytes d16) rfl ?_
    refine XS.icmpYes X6.here hexec rfl (pc0 := 17) rfl (hb hbytes d17) rfl (ii_eq_t rfl) (by decide) rfl ?_
    refine XS.aloadN X6.here hexec rfl (hb hbytes d57) rfl rfl ?_
    exact Steps.refl _)
  have X8 := X6.wide (L' := []) (cells' := 1) (slots' := len) (fun x hx hlt => by
    simp only [List.nil_append, copyLocs, List.mem_map, List.mem_range] at hx
    obtain ⟨i, -, rfl⟩ := hx
    exact absurd hlt (Nat.lt_irrefl _)) (Nat.le_refl _) (by omega)
  exact ⟨T6, some (.ref s.heap.size), _, _, _, X8, rfl, rfl, rfl, (fun h => by cases h), ⟨⟨rfl, B6, ba3.like (X3.warmed.alike.symm.trans X6.warmed.alike) p6.1 f6.1 f6.2.1 f6.2.2.1, f6.2.1.trans bv3, by rw [X6.warmed.alike.findClass, f6.1]; exact bf3, by rw [f6.2.2.1, bs3]; simp, fun j hj => by rw [f6.2.2.2 j, if_pos (by omega)]; rfl, kp3.put p6 (Nat.le_refl _)⟩, by rw [p6.2.2, bh3, hh0]; simp⟩, fun fs hl => c8.trans (X8.areturnOut hexec rfl hret rfl (hb hbytes d58) hl)⟩
end Cmp3
namespace CodL
def yN : MethodName := ⟨"java/lang/StringUTF16", "coderFromArrayLen", "([BI)B"⟩
abbrev yB : ByteArray := jdk_52_method_15_code
theorem d0 : decode yB 0 = .ok (.iload_n 1, 1) := by decide +kernel
theorem d1 : decode yB 1 = .ok (.aload_n 0, 1) := by decide +kernel
theorem d2 : decode yB 2 = .ok (.arraylength, 1) := by decide +kernel
theorem d3 : decode yB 3 = .ok (.isub, 1) := by decide +kernel
theorem d4 : decode yB 4 = .ok (.bipush 31, 2) := by decide +kernel
theorem d6 : decode yB 6 = .ok (.iushr, 1) := by decide +kernel
theorem d7 : decode yB 7 = .ok (.i2b, 1) := by decide +kernel
theorem d8 : decode yB 8 = .ok (.ireturn, 1) := by decide +kernel
def site : List Cond := []
def tab : Cond := tabOf yN yB 2 (some .byte) site
def P (d : Addr) (B : Cell) (args : Array Value) (s : State) : Prop := args = #[.ref d, .int (Int32.ofNat B.slots.size)] ∧ Arr .byte d B s
def E (r : Option Value) (s u : State) : Prop := XT.PureE (some (.int 0)) r s u
/-- an array as long as the number of chars: LATIN1 -/
theorem law (l : Launch) (d : Addr) (B : Cell) : Law l yN 2 2 0 0 yB 2 (some .byte) site (P d B) E [] 0 0 := by
  refine Law.of_walk (plainFor_of_name (by decide +kernel)) (by decide +kernel) (by decide +kernel) (by decide) (fun _ _ h => by rw [h.1]; rfl) (fun _ U U' hal hh h => ⟨h.1, h.2.mv hal hh⟩) (fun r U U' V V' h1 hal h2 h => XT.PureE.mv r U U' V V' h1 hal h2 h) ?_
  intro p e s m args below meth c s₁ X0 hexec hbytes hml hret hlk hnm hown hh0 W hP
  obtain ⟨rfl, hB⟩ := hP
  have hB0 := hB.mv X0.warmed.alike hh0
  have c1 : Steps p.tables e below (s₁.setTop (entryFrame m #[.ref d, .int (Int32.ofNat B.slots.size)] 2)) (s₁.setTop (mkF m 0 #[.val (.ref d), .val (.int (Int32.ofNat B.slots.size))] [])) := entry rfl
  have c2 : Steps p.tables e below (s₁.setTop (entryFrame m #[.ref d, .int (Int32.ofNat B.slots.size)] 2)) (s₁.setTop (mkF m 2 #[.val (.ref d), .val (.int (Int32.ofNat B.slots.size))] [.ref d, .int (Int32.ofNat B.slots.size)])) := c1.trans (by
    refine XS.iloadN X0.here hexec rfl (hb hbytes d0) rfl ?_
    refine XS.aloadN X0.here hexec rfl (hb hbytes d1) rfl rfl ?_
    exact Steps.refl _)
  have c3 : Steps p.tables e below (s₁.setTop (entryFrame m #[.ref d, .int (Int32.ofNat B.slots.size)] 2)) (s₁.setTop (mkF m 8 #[.val (.ref d), .val (.int (Int32.ofNat B.slots.size))] [.int (lo8 (ushr (Int32.ofNat B.slots.size - Int32.ofNat B.slots.size) 31))])) := c2.trans (by
    refine X0.alen hexec hB0 rfl rfl (hb hbytes d2) ?_
    refine XS.isub X0.here hexec rfl (hb hbytes d3) rfl ?_
    refine bipushV X0.here hexec rfl 31 (hb hbytes d4) (by decide) ?_
    refine iushr X0.here hexec rfl (hb hbytes d6) rfl ?_
    refine i2b X0.here hexec rfl (hb hbytes d7) rfl ?_
    exact Steps.refl _)
  have e0 : lo8 (ushr (Int32.ofNat B.slots.size - Int32.ofNat B.slots.size) 31) = 0 := by rw [Int32.sub_self]; decide
  rw [e0] at c3
  exact ⟨s₁, some (.int 0), _, _, _, X0, rfl, rfl, rfl, (fun h => by cases h), ⟨rfl, hh0⟩, fun fs hl => c3.trans (X0.ireturnOut hexec hret rfl (Or.inr (Or.inr (Or.inl rfl))) (hb hbytes d8) hl)⟩
end CodL
/-- the String at a is Latin-1 over a new byte[] (the heap's one new cell): the low bytes of the len chars of A from o on; every cell but a is kept -/
def Got (a : Addr) (D : Cell) (fV fC : Field) (A : Cell) (o len : Nat) (r : Option Value) (s u : State) : Prop := r = none ∧ ∃ D' V : Cell, Blank "java/lang/String" a D' u ∧ Same D D' [fV.slot, fC.slot] ∧ D'.slots[fV.slot]? = some (.ref s.heap.size) ∧ D'.slots[fC.slot]? = some (.int 0) ∧ Arr .byte s.heap.size V u ∧ V.vm = .none ∧ u.vm.findClass "[B" = some V.cls ∧ V.slots.size = len ∧ (∀ j, j < len → V.slots[j]? = some (.int (lo8 (cv A (o + j))))) ∧ (∀ (y : Addr) (c : Cell), y ≠ a → s.heap[y]? = some c → u.heap[y]? = some c) ∧ u.heap.size = s.heap.size + 1
theorem Got.mv {a : Addr} {D A : Cell} {fV fC : Field} {o len : Nat} : ∀ r (U U' V V' : State), U'.heap = U.heap → V.vm.Alike V'.vm → V'.heap = V.heap → Got a D fV fC A o len r U V → Got a D fV fC A o len r U' V' :=
  fun r U U' V V' h1 hal h2 ⟨e0, D', X, a1, a2, a3, a4, a5, a6, a7, a8, a9, a10, a11⟩ => ⟨e0, D', X, a1.mv hal h2, a2, by rw [h1]; exact a3, a4, by rw [h1]; exact a5.mv hal h2, a6, by rw [hal.findClass]; exact a7, a8, a9, by rw [h1, h2]; exact a10, by rw [h1, h2]; exact a11⟩
namespace New4
def yN : MethodName := ⟨"java/lang/String", "<init>", "([CIILjava/lang/Void;)V"⟩
abbrev yB : ByteArray := jdk_42_method_149_code
theorem d0 : decode yB 0 = .ok (.aload_n 0, 1) := by decide +kernel
theorem d1 : decode yB 1 = .ok (.invokespecial 1, 3) := by decide +kernel
theorem d4 : decode yB 4 = .ok (.iload_n 3, 1) := by decide +kernel
theorem d5 : decode yB 5 = .ok (.ifCond (.ne) 22, 3) := by decide +kernel
theorem d27 : decode yB 27 = .ok (.getstatic 38, 3) := by decide +kernel
theorem d30 : decode yB 30 = .ok (.ifCond (.eq) 28, 3) := by decide +kernel
theorem d33 : decode yB 33 = .ok (.aload_n 1, 1) := by decide +kernel
theorem d34 : decode yB 34 = .ok (.iload_n 2, 1) := by decide +kernel
theorem d35 : decode yB 35 = .ok (.iload_n 3, 1) := by decide +kernel
theorem d36 : decode yB 36 = .ok (.invokestatic 177, 3) := by decide +kernel
theorem d39 : decode yB 39 = .ok (.astore 5, 2) := by decide +kernel
theorem d41 : decode yB 41 = .ok (.aload_n 0, 1) := by decide +kernel
theorem d42 : decode yB 42 = .ok (.aload 5, 2) := by decide +kernel
theorem d44 : decode yB 44 = .ok (.iload_n 3, 1) := by decide +kernel
theorem d45 : decode yB 45 = .ok (.invokestatic 47, 3) := by decide +kernel
theorem d48 : decode yB 48 = .ok (.putfield 15, 3) := by decide +kernel
theorem d51 : decode yB 51 = .ok (.aload_n 0, 1) := by decide +kernel
theorem d52 : decode yB 52 = .ok (.aload 5, 2) := by decide +kernel
theorem d54 : decode yB 54 = .ok (.putfield 9, 3) := by decide +kernel
theorem d57 : decode yB 57 = .ok (.return_, 1) := by decide +kernel
def site : List Cond := [.fieldLink "java/lang/String" 38 "java/lang/String" "COMPACT_STRINGS" "Z", Cmp3.tab, CodL.tab, .laysFinal "java/lang/String" "java/lang/String" "value" "[B", .fieldLink "java/lang/String" 9 "java/lang/String" "value" "[B", .laysFinal "java/lang/String" "java/lang/String" "coder" "B", .fieldLink "java/lang/String" 15 "java/lang/String" "coder" "B"] ++ objW "java/lang/String" 1 ++ staticW "java/lang/String" 177 Cmp3.yN ++ staticW "java/lang/String" 47 CodL.yN
def tab : Cond := tabOf yN yB 6 none site
def P (a : Addr) (D : Cell) (fV fC : Field) (b : Addr) (A : Cell) (z : Int32) (o len : Nat) (args : Array Value) (s : State) : Prop := args = #[.ref a, .ref b, .int (Int32.ofNat o), .int (Int32.ofNat len), .null] ∧ Blank "java/lang/String" a D s ∧ Found "java/lang/String" "value" "[B" fV s ∧ Found "java/lang/String" "coder" "B" fC s ∧ Ch b A s ∧ StaticIs s "java/lang/String" "COMPACT_STRINGS" "Z" (.int z) ∧ ¬ z = 0 ∧ 0 < len ∧ o + len ≤ A.slots.size ∧ len ≤ 536870912 ∧ ∀ i, i < len → ¬ 255 < cv A (o + i)
def E (a : Addr) (D : Cell) (fV fC : Field) (A : Cell) (o len : Nat) (r : Option Value) (s u : State) : Prop := Got a D fV fC A o len r s u
/-- len > 0, no char of the range above 255: a Latin-1 String of their low bytes -/
theorem law (l : Launch) (a : Addr) (D : Cell) (fV fC : Field) (b : Addr) (A : Cell) (z : Int32) (o len : Nat) : Law l yN 5 4 2 35 yB 6 none site (P a D fV fC b A z o len) (E a D fV fC A o len) [⟨a, fC.slot⟩, ⟨a, fV.slot⟩] 1 len := by
  refine Law.of_walk (plainFor_of_name (by decide +kernel)) (by decide +kernel) (by decide +kernel) (by decide) (fun _ _ h => by rw [h.1]; rfl) (fun _ U U' hal hh h => ⟨h.1, h.2.1.mv hal hh, h.2.2.1.al hal, h.2.2.2.1.al hal, h.2.2.2.2.1.mv hal hh, h.2.2.2.2.2.1.there hal hh, h.2.2.2.2.2.2⟩) (fun r U U' V V' h1 hal h2 h => Got.mv r U U' V V' h1 hal h2 h) ?_
  intro p e s m args below meth c s₁ X0 hexec hbytes hml hret hlk hnm hown hh0 W hP
  obtain ⟨rfl, hB, f1, f2, hA, s1, hz, l0, l1, l2, hp⟩ := hP
  have a31 := hA.1.2.2.2
  have c1 : Steps p.tables e below (s₁.setTop (entryFrame m #[.ref a, .ref b, .int (Int32.ofNat o), .int (Int32.ofNat len), .null] 6)) (s₁.setTop (mkF m 0 #[.val (.ref a), .val (.ref b), .val (.int (Int32.ofNat o)), .val (.int (Int32.ofNat len)), .val .null, .unset] [])) := entry rfl
  have c2 : Steps p.tables e below (s₁.setTop (entryFrame m #[.ref a, .ref b, .int (Int32.ofNat o), .int (Int32.ofNat len), .null] 6)) (s₁.setTop (mkF m 1 #[.val (.ref a), .val (.ref b), .val (.int (Int32.ofNat o)), .val (.int (Int32.ofNat len)), .val .null, .unset] [.ref a])) := c1.trans (by
    refine XS.aloadN X0.here hexec rfl (hb hbytes d0) rfl rfl ?_
    exact Steps.refl _)
  obtain ⟨T3, X3, q3, st3⟩ := X0.oinit hexec hown (wks W (objW "java/lang/String" 1)) (g := (mkF m 1 #[.val (.ref a), .val (.ref b), .val (.int (Int32.ofNat o)), .val (.int (Int32.ofNat len)), .val .null, .unset] [.ref a])) rfl (by rw [hml]; rfl) (rest := []) rfl (hb hbytes d1) (W := 0) (by show 2 * 0 + 0 ≤ _; decide) (Nat.le_of_ble_eq_true rfl) (Nat.le_of_ble_eq_true rfl)
  have hh3 := q3.trans hh0
  have c4 : Steps p.tables e below (s₁.setTop (entryFrame m #[.ref a, .ref b, .int (Int32.ofNat o), .int (Int32.ofNat len), .null] 6)) (T3.setTop (mkF m 27 #[.val (.ref a), .val (.ref b), .val (.int (Int32.ofNat o)), .val (.int (Int32.ofNat len)), .val .null, .unset] [])) := (c2.trans (st3 _ (Steps.refl _))).trans (by
    refine XS.iloadN X3.here hexec rfl (hb hbytes d4) rfl ?_
    refine XS.ifYes X3.here hexec rfl (pc0 := 5) rfl (hb hbytes d5) rfl (i0_ne_t (nz32 (by omega) l0)) (by decide) rfl ?_
    exact Steps.refl _)
  obtain ⟨T5, X5, q5, st5⟩ := X3.sget hexec hown (wk W (.fieldLink "java/lang/String" 38 "java/lang/String" "COMPACT_STRINGS" "Z")) s1 (fun _ _ h => by rw [hh3]; exact h) (g := (mkF m 27 #[.val (.ref a), .val (.ref b), .val (.int (Int32.ofNat o)), .val (.int (Int32.ofNat len)), .val .null, .unset] [])) rfl (hb hbytes d27)
  have hh5 := q5.trans hh3
  have c6 : Steps p.tables e below (s₁.setTop (entryFrame m #[.ref a, .ref b, .int (Int32.ofNat o), .int (Int32.ofNat len), .null] 6)) (T5.setTop (mkF m 30 #[.val (.ref a), .val (.ref b), .val (.int (Int32.ofNat o)), .val (.int (Int32.ofNat len)), .val .null, .unset] [.int z])) := c4.trans (st5 _ (Steps.refl _))
  have c7 : Steps p.tables e below (s₁.setTop (entryFrame m #[.ref a, .ref b, .int (Int32.ofNat o), .int (Int32.ofNat len), .null] 6)) (T5.setTop (mkF m 36 #[.val (.ref a), .val (.ref b), .val (.int (Int32.ofNat o)), .val (.int (Int32.ofNat len)), .val .null, .unset] [.int (Int32.ofNat len), .int (Int32.ofNat o), .ref b])) := c6.trans (by
    refine XS.ifNo X5.here hexec rfl (hb hbytes d30) rfl (i0_eq_f hz) ?_
    refine XS.aloadN X5.here hexec rfl (hb hbytes d33) rfl rfl ?_
    refine XS.iloadN X5.here hexec rfl (hb hbytes d34) rfl ?_
    refine XS.iloadN X5.here hexec rfl (hb hbytes d35) rfl ?_
    exact Steps.refl _)
  obtain ⟨v8, T8, X8, E8, g8⟩ := X5.callS hexec (Cmp3.law l b A o len) hown (wks W (staticW "java/lang/String" 177 Cmp3.yN)) (wk W Cmp3.tab) (W := 0) (Nat.le_of_ble_eq_true rfl) (Nat.le_of_ble_eq_true rfl) (Nat.le_refl _) (by show 0 + len ≤ len; omega) (g := (mkF m 36 #[.val (.ref a), .val (.ref b), .val (.int (Int32.ofNat o)), .val (.int (Int32.ofNat len)), .val .null, .unset] [.int (Int32.ofNat len), .int (Int32.ofNat o), .ref b])) rfl (by rw [hml]; rfl) c7 (argsL := [.ref b, .int (Int32.ofNat o), .int (Int32.ofNat len)]) (rest := []) rfl rfl (by show 2 * 0 + 0 ≤ _; decide) (hb hbytes d36) (⟨rfl, hA.mv X5.warmed.alike hh5, l1, l2, hp⟩)
  obtain ⟨e8, z8⟩ := E8
  obtain ⟨rfl, N, n1, n2, n3, n4, n5, n6⟩ := NewArr.mv _ T5 s _ _ hh5.symm (Vm.Alike.refl _) rfl e8
  rw [hh5] at z8
  have hB1 := hB.keep X8.warmed.alike (n6 _ _ hB.1)
  have hne : s.heap.size ≠ a := (Nat.ne_of_lt (Array.getElem?_eq_some_iff.mp hB.1).1).symm
  have c9 : Steps p.tables e below (s₁.setTop (entryFrame m #[.ref a, .ref b, .int (Int32.ofNat o), .int (Int32.ofNat len), .null] 6)) (T8.setTop (mkF m 39 #[.val (.ref a), .val (.ref b), .val (.int (Int32.ofNat o)), .val (.int (Int32.ofNat len)), .val .null, .unset] [.ref s.heap.size])) := g8
  have c10 : Steps p.tables e below (s₁.setTop (entryFrame m #[.ref a, .ref b, .int (Int32.ofNat o), .int (Int32.ofNat len), .null] 6)) (T8.setTop (mkF m 45 #[.val (.ref a), .val (.ref b), .val (.int (Int32.ofNat o)), .val (.int (Int32.ofNat len)), .val .null, .val (.ref s.heap.size)] [.int (Int32.ofNat N.slots.size), .ref s.heap.size, .ref a])) := by
    have hc : Steps p.tables e below (s₁.setTop (entryFrame m #[.ref a, .ref b, .int (Int32.ofNat o), .int (Int32.ofNat len), .null] 6)) (T8.setTop (mkF m 45 #[.val (.ref a), .val (.ref b), .val (.int (Int32.ofNat o)), .val (.int (Int32.ofNat len)), .val .null, .val (.ref s.heap.size)] [.int (Int32.ofNat len), .ref s.heap.size, .ref a])) := c9.trans (by
      refine XS.astore X8.here hexec rfl (hb hbytes d39) rfl rfl rfl ?_
      refine XS.aloadN X8.here hexec rfl (hb hbytes d41) rfl rfl ?_
      refine XS.aload X8.here hexec rfl (hb hbytes d42) rfl rfl ?_
      refine XS.iloadN X8.here hexec rfl (hb hbytes d44) rfl ?_
      exact Steps.refl _)
    rw [n4]; exact hc
  obtain ⟨v11, T11, X11, E11, g11⟩ := X8.callS hexec (CodL.law l s.heap.size N) hown (wks W (staticW "java/lang/String" 47 CodL.yN)) (wk W CodL.tab) (W := 1) (Nat.le_of_ble_eq_true rfl) (Nat.le_of_ble_eq_true rfl) (Nat.le_refl _) (by show 0 + len + 0 ≤ len; omega) (g := (mkF m 45 #[.val (.ref a), .val (.ref b), .val (.int (Int32.ofNat o)), .val (.int (Int32.ofNat len)), .val .null, .val (.ref s.heap.size)] [.int (Int32.ofNat N.slots.size), .ref s.heap.size, .ref a])) rfl (by rw [hml]; rfl) c10 (argsL := [.ref s.heap.size, .int (Int32.ofNat N.slots.size)]) (rest := [.ref a]) rfl rfl (by show 2 * 0 + (1 + 0) ≤ _; decide) (hb hbytes d45) (⟨rfl, n1⟩)
  obtain ⟨rfl, q11⟩ := E11
  have hB11 := hB1.mv (X8.warmed.alike.symm.trans X11.warmed.alike) q11
  have c12 : Steps p.tables e below (s₁.setTop (entryFrame m #[.ref a, .ref b, .int (Int32.ofNat o), .int (Int32.ofNat len), .null] 6)) (T11.setTop (mkF m 48 #[.val (.ref a), .val (.ref b), .val (.int (Int32.ofNat o)), .val (.int (Int32.ofNat len)), .val .null, .val (.ref s.heap.size)] [.int 0, .ref a])) := g11
  obtain ⟨T13, X13, p13, bl13, sl13, st13⟩ := X11.finit hexec hown (wk W (.fieldLink "java/lang/String" 15 "java/lang/String" "coder" "B")) (Or.inr ⟨_, (wk W (.laysFinal "java/lang/String" "java/lang/String" "coder" "B"))⟩) (Or.inl ⟨rfl, hnm⟩) f2 (Or.inl rfl) hB11 (t := .byte) (by decide +kernel) rfl (g := (mkF m 48 #[.val (.ref a), .val (.ref b), .val (.int (Int32.ofNat o)), .val (.int (Int32.ofNat len)), .val .null, .val (.ref s.heap.size)] [.int 0, .ref a])) rfl (rest := []) rfl (hb hbytes d48)
  have c14 : Steps p.tables e below (s₁.setTop (entryFrame m #[.ref a, .ref b, .int (Int32.ofNat o), .int (Int32.ofNat len), .null] 6)) (T13.setTop (mkF m 54 #[.val (.ref a), .val (.ref b), .val (.int (Int32.ofNat o)), .val (.int (Int32.ofNat len)), .val .null, .val (.ref s.heap.size)] [.ref s.heap.size, .ref a])) := (c12.trans (st13 _ (Steps.refl _))).trans (by
    refine XS.aloadN X13.here hexec rfl (hb hbytes d51) rfl rfl ?_
    refine XS.aload X13.here hexec rfl (hb hbytes d52) rfl rfl ?_
    exact Steps.refl _)
  obtain ⟨T15, X15, p15, bl15, sl15, st15⟩ := X13.finit hexec hown (wk W (.fieldLink "java/lang/String" 9 "java/lang/String" "value" "[B")) (Or.inr ⟨_, (wk W (.laysFinal "java/lang/String" "java/lang/String" "value" "[B"))⟩) (Or.inl ⟨rfl, hnm⟩) f1 (Or.inl rfl) bl13 (t := (.array .byte)) (by decide +kernel) rfl (g := (mkF m 54 #[.val (.ref a), .val (.ref b), .val (.int (Int32.ofNat o)), .val (.int (Int32.ofNat len)), .val .null, .val (.ref s.heap.size)] [.ref s.heap.size, .ref a])) rfl (rest := []) rfl (hb hbytes d54)
  have c16 : Steps p.tables e below (s₁.setTop (entryFrame m #[.ref a, .ref b, .int (Int32.ofNat o), .int (Int32.ofNat len), .null] 6)) (T15.setTop (mkF m 57 #[.val (.ref a), .val (.ref b), .val (.int (Int32.ofNat o)), .val (.int (Int32.ofNat len)), .val .null, .val (.ref s.heap.size)] [])) := c14.trans (st15 _ (Steps.refl _))
  have ap := apart (Or.inr ⟨_, (wk W (.laysFinal "java/lang/String" "java/lang/String" "value" "[B"))⟩) (Or.inr ⟨_, (wk W (.laysFinal "java/lang/String" "java/lang/String" "coder" "B"))⟩) f1 f2 (t₁ := .array .byte) (t₂ := .byte) (by decide +kernel) (by decide +kernel) (by decide)
  have al := X8.warmed.alike.symm.trans X15.warmed.alike
  have n7 : T11.heap[s.heap.size]? = some N := by rw [q11]; exact n1.1
  exact ⟨T15, none, _, _, _, X15, by simp, rfl, by omega, (fun _ => rfl), ⟨rfl, _, N, bl15, ((Same.refl D _).set _ (by simp)).set _ (by simp), sl15, (Cell.slots_setSlot_ne _ ap).trans sl13, n1.keep al (p15.other hne (p13.other hne n7)), n2, by rw [al.findClass]; exact n3, n4, n5, fun y c h1 h2 => p15.other h1 (p13.other h1 (by rw [q11]; exact n6 y c h2)), by rw [p15.2.2, p13.2.2, q11]; exact z8⟩, fun fs hl => c16.trans (X15.returnOut hexec hret (hb hbytes d57) hl)⟩
end New4
namespace New1
def yN : MethodName := ⟨"java/lang/String", "<init>", "([C)V"⟩
abbrev yB : ByteArray := jdk_42_method_3_code
theorem d0 : decode yB 0 = .ok (.aload_n 0, 1) := by decide +kernel
theorem d1 : decode yB 1 = .ok (.aload_n 1, 1) := by decide +kernel
theorem d2 : decode yB 2 = .ok (.iconst 0, 1) := by decide +kernel
theorem d3 : decode yB 3 = .ok (.aload_n 1, 1) := by decide +kernel
theorem d4 : decode yB 4 = .ok (.arraylength, 1) := by decide +kernel
theorem d5 : decode yB 5 = .ok (.aconst_null, 1) := by decide +kernel
theorem d6 : decode yB 6 = .ok (.invokespecial 27, 3) := by decide +kernel
theorem d9 : decode yB 9 = .ok (.return_, 1) := by decide +kernel
def site : List Cond := [New4.tab] ++ initW "java/lang/String" 27 New4.yN
def tab : Cond := tabOf yN yB 2 none site
def P (a : Addr) (D : Cell) (fV fC : Field) (b : Addr) (A : Cell) (z : Int32) (args : Array Value) (s : State) : Prop := args = #[.ref a, .ref b] ∧ Blank "java/lang/String" a D s ∧ Found "java/lang/String" "value" "[B" fV s ∧ Found "java/lang/String" "coder" "B" fC s ∧ Ch b A s ∧ StaticIs s "java/lang/String" "COMPACT_STRINGS" "Z" (.int z) ∧ ¬ z = 0 ∧ 0 < A.slots.size ∧ A.slots.size ≤ 536870912 ∧ ∀ i, i < A.slots.size → ¬ 255 < cv A i
def E (a : Addr) (D : Cell) (fV fC : Field) (A : Cell) (r : Option Value) (s u : State) : Prop := Got a D fV fC A 0 A.slots.size r s u
/-- new String(chars), not empty, no char above 255: a Latin-1 String of their low bytes -/
theorem law (l : Launch) (a : Addr) (D : Cell) (fV fC : Field) (b : Addr) (A : Cell) (z : Int32) : Law l yN 2 1 3 52 yB 2 none site (P a D fV fC b A z) (E a D fV fC A) [⟨a, fC.slot⟩, ⟨a, fV.slot⟩] 1 A.slots.size := by
  refine Law.of_walk (plainFor_of_name (by decide +kernel)) (by decide +kernel) (by decide +kernel) (by decide) (fun _ _ h => by rw [h.1]; rfl) (fun _ U U' hal hh h => ⟨h.1, h.2.1.mv hal hh, h.2.2.1.al hal, h.2.2.2.1.al hal, h.2.2.2.2.1.mv hal hh, h.2.2.2.2.2.1.there hal hh, h.2.2.2.2.2.2⟩) (fun r U U' V V' h1 hal h2 h => Got.mv r U U' V V' h1 hal h2 h) ?_
  intro p e s m args below meth c s₁ X0 hexec hbytes hml hret hlk hnm hown hh0 W hP
  obtain ⟨rfl, hB, f1, f2, hA, s1, hz, l0, l2, hp⟩ := hP
  have c1 : Steps p.tables e below (s₁.setTop (entryFrame m #[.ref a, .ref b] 2)) (s₁.setTop (mkF m 0 #[.val (.ref a), .val (.ref b)] [])) := entry rfl
  have c2 : Steps p.tables e below (s₁.setTop (entryFrame m #[.ref a, .ref b] 2)) (s₁.setTop (mkF m 6 #[.val (.ref a), .val (.ref b)] [.null, .int (Int32.ofNat A.slots.size), .int 0, .ref b, .ref a])) := c1.trans (by
    refine XS.aloadN X0.here hexec rfl (hb hbytes d0) rfl rfl ?_
    refine XS.aloadN X0.here hexec rfl (hb hbytes d1) rfl rfl ?_
    refine iconstV X0.here hexec rfl 0 (hb hbytes d2) (by decide) ?_
    refine XS.aloadN X0.here hexec rfl (hb hbytes d3) rfl rfl ?_
    refine X0.alen hexec (hA.1.mv X0.warmed.alike hh0) rfl rfl (hb hbytes d4) ?_
    refine XS.aconstNull X0.here hexec rfl (hb hbytes d5) ?_
    exact Steps.refl _)
  obtain ⟨v3, T3, X3, E3, g3⟩ := X0.callN hexec (New4.law l a D fV fC b A z 0 A.slots.size) rfl hown (wks W (initW "java/lang/String" 27 New4.yN)) (W New4.tab (by simp only [site, List.mem_cons, List.mem_append, true_or, or_true])) (W := 0) (Nat.le_of_ble_eq_true rfl) (Nat.le_of_ble_eq_true rfl) (Nat.le_refl _) (by show 0 + A.slots.size ≤ A.slots.size; omega) (g := (mkF m 6 #[.val (.ref a), .val (.ref b)] [.null, .int (Int32.ofNat A.slots.size), .int (Int32.ofNat 0), .ref b, .ref a])) rfl (by rw [hml]; rfl) c2 (argsL := [.ref b, .int (Int32.ofNat 0), .int (Int32.ofNat A.slots.size), .null]) (rest := []) rfl rfl (by show 2 * 0 + 0 ≤ _; decide) (hb hbytes d6) (⟨rfl, hB.mv X0.warmed.alike hh0, f1.al X0.warmed.alike, f2.al X0.warmed.alike, hA.mv X0.warmed.alike hh0, s1.there X0.warmed.alike hh0, hz, l0, by omega, l2, fun i hi => by rw [Nat.zero_add]; exact hp i hi⟩)
  have e0 := Got.mv _ s₁ s _ _ hh0.symm (Vm.Alike.refl _) rfl E3
  obtain rfl := e0.1
  have c4 : Steps p.tables e below (s₁.setTop (entryFrame m #[.ref a, .ref b] 2)) (T3.setTop (mkF m 9 #[.val (.ref a), .val (.ref b)] [])) := g3
  exact ⟨T3, none, _, _, _, X3, by simp, rfl, by omega, (fun _ => rfl), e0, fun fs hl => c4.trans (X3.returnOut hexec hret (hb hbytes d9) hl)⟩
theorem pays {l : Launch} {R : Room} {p : Program} {e : Env} {below : List Frame} {s : State} {sargs : Array Value} {len W : Nat} (a : Addr) (D : Cell) (fV fC : Field) (b : Addr) (A : Cell) (z : Int32) (htab : tab.before sargs s = true) (hfr : 4 ≤ R.frames) (hlo : W + 65 ≤ R.locals) :
    Back l R p e below s sargs yN len W (fun A₁ a₁ => A₁.cells + 1 ≤ R.cells ∧ A₁.slots + A.slots.size ≤ R.slots ∧ P a D fV fC b A z a₁ A₁.U) (fun A₁ _ v₁ B₁ => E a D fV fC A v₁ A₁.U B₁.U ∧ B₁.locs = A₁.locs ++ [⟨a, fC.slot⟩, ⟨a, fV.slot⟩] ∧ B₁.cells = A₁.cells + 1 ∧ B₁.slots = A₁.slots + A.slots.size) :=
  (law l a D fV fC b A z).pays htab hfr (by omega)
end New1
/-- the byte, read back as charAt reads it, is the char -/
theorem lo8_mask {x : Int32} (h0 : ¬ x < 0) (h1 : ¬ 255 < x) : lo8 x &&& 255 = x := by
  have t : ∀ k : Fin 256, lo8 (Int32.ofNat k.val) &&& 255 = Int32.ofNat k.val := by decide +kernel
  rw [Int32.lt_iff_toInt_lt] at h0 h1
  have e0 : (0 : Int32).toInt = 0 := rfl
  have e1 : (255 : Int32).toInt = 255 := rfl
  obtain ⟨k, hk⟩ : ∃ k : Nat, x.toInt = k := ⟨x.toInt.toNat, by omega⟩
  have hx : x = Int32.ofNat k := Int32.toInt_inj.mp (by rw [hk, Int32.toInt_ofNat_small (by omega)])
  rw [hx]
  exact t ⟨k, by omega⟩
end StrChars
namespace StrChars.Road
open Jvm Sem ClassFile Op Lib Jvm.Stand Jvm.Free Jvm.Free.XT
open Jvm.Lib.Cold (StaticIs)
abbrev ST : String := "java/lang/String"
/-- every table word that New1's law asks, flat -/
abbrev words : List Jvm.Cond := [.code New1.yN New1.yB 2 none, .initialized ST, .methodLink ST 27 New4.yN, .instanceMethod New4.yN,
  .code New4.yN New4.yB 6 none, .fieldLink ST 38 ST "COMPACT_STRINGS" "Z", .laysFinal ST ST "value" "[B", .fieldLink ST 9 ST "value" "[B", .laysFinal ST ST "coder" "B", .fieldLink ST 15 ST "coder" "B",
  .methodLink ST 1 Lib.objectInit, .instanceMethod Lib.objectInit, .code Lib.objectInit ⟨#[0xb1]⟩ 1 none, .methodLink ST 177 Cmp3.yN, .static Cmp3.yN, .methodLink ST 47 CodL.yN, .static CodL.yN,
  .code Cmp3.yN Cmp3.yB 6 (some (.array .byte)), .initialized U16, .arrayClass .byte, .methodLink U16 115 Cmp5.yN, .static Cmp5.yN, .code Cmp5.yN Cmp5.yB 7 (some .int), .code CodL.yN CodL.yB 2 (some .byte)]
theorem tab_of {a : Array Value} {s : State} (h : ∀ w ∈ words, w.before a s = true) : New1.tab.before a s = true := by
  have h5 : Cmp5.tab.before a s = true := unparts (wk h (.code Cmp5.yN Cmp5.yB 7 (some .int))) (wks h (.initialized Cmp5.yN.cls :: Cmp5.site))
  have hc : CodL.tab.before a s = true := unparts (wk h (.code CodL.yN CodL.yB 2 (some .byte))) (wks h (.initialized CodL.yN.cls :: CodL.site))
  have q5 : ∀ w ∈ Cmp5.tab :: words, w.before a s = true := fun w hw => (List.mem_cons.mp hw).elim (fun e => e ▸ h5) (h w)
  have h3 : Cmp3.tab.before a s = true := unparts (wk q5 (.code Cmp3.yN Cmp3.yB 6 (some (.array .byte)))) (wks q5 (.initialized Cmp3.yN.cls :: Cmp3.site))
  have q3 : ∀ w ∈ Cmp3.tab :: CodL.tab :: words, w.before a s = true := fun w hw => (List.mem_cons.mp hw).elim (fun e => e ▸ h3) fun hw => (List.mem_cons.mp hw).elim (fun e => e ▸ hc) (h w)
  have h4 : New4.tab.before a s = true := unparts (wk q3 (.code New4.yN New4.yB 6 none)) (wks q3 (.initialized New4.yN.cls :: New4.site))
  have q4 : ∀ w ∈ New4.tab :: words, w.before a s = true := fun w hw => (List.mem_cons.mp hw).elim (fun e => e ▸ h4) (h w)
  exact unparts (wk q4 (.code New1.yN New1.yB 2 none)) (wks q4 (.initialized New1.yN.cls :: New1.site))
/-- the words ride from the start Z to the walk's own state -/
theorem moved {Z s : State} {a0 args : Array Value} (hZ : Z.Warmed39 s.vm) (hw : ∀ d ∈ words, d.before a0 Z = true) : ∀ d ∈ words, d.before args s = true := fun d hd => by
  have q := hw d hd
  have t : ∀ d ∈ words, d = .arrayClass .byte ∨ (d.onTables && d.keepsFace) = true := by decide +kernel
  rcases t d hd with rfl | t
  · exact RoadKit.mvA hZ q
  · exact RoadKit.mv hZ q t
/-- WHAT COMES BACK, over the tables of the start Z: h the heap at the call, h' behind it -/
def Q (Z : State) (x : Addr) (A : Cell) (h : Heap) (v : Option Value) (h' : Heap) (L : List Loc) : Prop := v = none ∧ (∀ y ∈ L, y.base = x) ∧ RoadKit.Keep h h' [x] ∧ h'.size = h.size + 1 ∧ RoadKit.Exa Z h' x ST ∧ RoadKit.Fld Z h' x ST "value" "[B" (.ref h.size) ∧ RoadKit.Fld Z h' x ST "coder" "B" (.int 0) ∧
  (∃ V : Cell, RoadKit.Arr Z h' h.size V .byte ∧ V.vm = .none ∧ Z.vm.findClass "[B" = some V.cls ∧ V.slots.size = A.slots.size ∧ ∀ j, j < A.slots.size → V.slots[j]? = some (.int (lo8 (cv A j)))) ∧
  ∀ (O n d : String) (w : Value), RoadKit.Fld Z h x O n d w → RoadKit.slotOf Z O n d ≠ RoadKit.slotOf Z ST "value" "[B" → RoadKit.slotOf Z O n d ≠ RoadKit.slotOf Z ST "coder" "B" → RoadKit.Fld Z h' x O n d w
/-- **new String(chars) AT A CALL, IN THE ROAD'S FORM**: for specialBack behind newO: x the fresh String, b the char[] with the cell A -/
theorem back {p : Program} {l : Launch} {e : Env} {R : Room} {s : State} {args : Array Value} {below : List Frame} {len W : Nat} {Z : State} {a0 : Array Value} {h : Heap} (hZ : Z.Warmed39 s.vm) (hw : ∀ d ∈ words, d.before a0 Z = true) {kI : Nat} (wi : (Jvm.Cond.instantiable ST kI).before a0 Z = true)
    {x b : Addr} {A : Cell} {z : Int32} {v0 c0 : Value} (E : RoadKit.Exa Z h x ST) (V : RoadKit.Fld Z h x ST "value" "[B" v0) (C : RoadKit.Fld Z h x ST "coder" "B" c0) (K : RoadKit.Arr Z h b A .char) (hty : Typed .char A) (S : RoadKit.Sta Z h ST "COMPACT_STRINGS" "Z" (.int z)) (hz : ¬ z = 0)
    (l0 : 0 < A.slots.size) (l2 : A.slots.size ≤ 536870912) (hp : ∀ i, i < A.slots.size → ¬ 255 < cv A i) (hfr : 4 ≤ R.frames) (hlo : W + 65 ≤ R.locals) :
    Back l R p e below s args New1.yN len W (fun P a => a = #[.ref x, .ref b] ∧ P.U.heap = h ∧ P.cells + 1 ≤ R.cells ∧ P.slots + A.slots.size ≤ R.slots)
      (fun P _ v B => ∃ L, Q Z x A h v B.U.heap L ∧ B.locs = P.locs ++ L ∧ B.cells = P.cells + 1 ∧ B.slots = P.slots + A.slots.size) := by
  intro m meth c P g ig mk a X hg hsize hdg hW hn hp'
  obtain ⟨rfl, rfl, r1, r2⟩ := hp'
  have al : Z.vm.Alike P.U.vm := hZ.alike.trans X.warmed.alike
  obtain ⟨D, cfV, kV, iV, fV, hD, gV, stV, knV, obV, asV, slV⟩ := id V
  obtain ⟨D', cfC, kC, iC, fC, hD', gC, stC, -, -, asC, slC⟩ := id C
  cases hD.symm.trans hD'
  obtain ⟨D2, kD, e1, e2, e3, e4, e5⟩ := id E
  cases hD.symm.trans e1
  obtain ⟨c2, k2, i1, i2, i3, -⟩ := Cond.instantiable_spec wi
  cases e2.symm.trans i1
  cases e3.symm.trans i2
  obtain ⟨kU, u1, u2⟩ := al.2.2 _ _ e3
  have hB : Blank ST x D P.U := ⟨hD, ⟨knV, fun q hq => by rw [hq] at obV; cases obV⟩, by rw [al.findClass]; exact e2, kU, u1, by rw [u2]; exact i3, by rw [u2]; exact e5 i3⟩
  have F1 : Found ST "value" "[B" fV P.U := ⟨SBG.found_only al ⟨cfV, kV, iV, gV⟩, stV⟩
  have F2 : Found ST "coder" "B" fC P.U := ⟨SBG.found_only al ⟨cfC, kC, iC, gC⟩, stC⟩
  have hA : Ch b A P.U := ⟨⟨K.1, State.isArrayOf_alike al K.2.1, K.2.2, by omega⟩, hty⟩
  have hS : StaticIs P.U ST "COMPACT_STRINGS" "Z" (.int z) := by
    obtain ⟨cfS, iS, kS, fS, st, cS, t1, t2, t3, t4, t5, t6, t7⟩ := S
    exact StaticIs.there (s := { Z with heap := P.U.heap }) ⟨cfS, iS, kS, fS, st, cS, t1, t2, t3, t4, t5, (fun q => by rw [q] at t6; cases t6), t7⟩ al rfl
  obtain ⟨v, B, X', ⟨⟨hv, E', V', q1, q2, q3, q4, q5, q6, q7, q8, q9, q10, q11⟩, hl, hc, hs⟩, st⟩ := New1.pays x D fV fC b A z (tab_of (moved hZ hw)) hfr hlo m meth c P g ig mk _ X hg hsize hdg hW hn ⟨r1, r2, rfl, hB, F1, F2, hA, hS, hz, l0, l2, hp⟩
  have al' : Z.vm.Alike B.U.vm := hZ.alike.trans X'.warmed.alike
  have hsz : E'.slots.size = D.slots.size := by
    obtain ⟨-, -, -, kB, w1, w2, w3⟩ := q1
    obtain ⟨kB', y1, y2⟩ := al'.2.2 _ _ e3
    rw [q2.2.1] at w1
    cases w1.symm.trans y1
    rw [w3, e5 i3, y2]
  refine ⟨v, B, X', ⟨_, ⟨hv, ?_, ⟨by omega, fun y cy hy hn' => q10 y cy (by simpa using hn') hy, fun y cy hy => ?_⟩, q11, ⟨E', _, q1.1, by rw [q2.2.1]; exact e2, by rw [q2.2.1]; exact e3, by rw [q2.1]; exact obV, fun _ => by rw [hsz]; exact e5 i3⟩,
    ⟨E', cfV, kV, iV, fV, q1.1, gV, stV, by rw [q2.1]; exact knV, by rw [q2.1]; exact obV, by rw [q2.2.1]; exact asV, q3⟩, ⟨E', cfC, kC, iC, fC, q1.1, gC, stC, by rw [q2.1]; exact knV, by rw [q2.1]; exact obV, by rw [q2.2.1]; exact asC, q4⟩,
    ⟨V', ⟨q5.1, State.isArrayOf_alike al'.symm q5.2.1, q5.2.2.1⟩, q6, by rw [← al'.findClass]; exact q7, q8, fun j hj => by have := q9 j hj; rwa [Nat.zero_add] at this⟩, fun O n d w F n1 n2 => ?_⟩, hl, hc, hs⟩, st⟩
  · intro y hy
    simp only [List.mem_cons, List.not_mem_nil, or_false] at hy
    rcases hy with rfl | rfl <;> rfl
  · by_cases q : y = x
    · subst q
      cases hD.symm.trans hy
      exact ⟨E', q1.1, q2.2.1, q2.1, hsz⟩
    · exact ⟨cy, q10 y cy q hy, rfl, rfl, rfl⟩
  · obtain ⟨D3, cf, k, i, f, g1, g2, g3, g4, g5, g6, g7⟩ := F
    cases hD.symm.trans g1
    simp only [RoadKit.slotOf, g2, gV, gC, Option.map_some, Option.getD_some] at n1 n2
    exact ⟨E', cf, k, i, f, q1.1, g2, g3, by rw [q2.1]; exact g4, by rw [q2.1]; exact g5, by rw [q2.2.1]; exact g6, by rw [q2.2.2 f.slot (by simp [n1, n2])]; exact g7⟩
end StrChars.Road
namespace StrChars.Road
open Jvm Sem ClassFile Op Lib Jvm.Stand Jvm.Free Jvm.Free.XT
/-- WHAT COMES BACK, the byte[] as a list of values -/
def QA (Z : State) (x : Addr) (zn : Int32) (cs : List Int32) (h : Heap) (v : Option Value) (h' : Heap) (L : List Loc) : Prop := v = none ∧ (∀ y ∈ L, y.base = x) ∧ RoadKit.Keep h h' [x] ∧ h'.size = h.size + 1 ∧ RoadKit.Exa Z h' x ST ∧ RoadKit.Fld Z h' x ST "value" "[B" (.ref h.size) ∧ RoadKit.Fld Z h' x ST "coder" "B" (.int 0) ∧
  (∃ kb, Z.vm.findClass "[B" = some kb ∧ RoadKit.Arv Z h' h.size kb .byte zn (cs.map fun c => .int (lo8 c)) (.int 0)) ∧
  ∀ (O n d : String) (w : Value), RoadKit.Fld Z h x O n d w → RoadKit.slotOf Z O n d ≠ RoadKit.slotOf Z ST "value" "[B" → RoadKit.slotOf Z O n d ≠ RoadKit.slotOf Z ST "coder" "B" → RoadKit.Fld Z h' x O n d w
/-- **new String(chars) AT A CALL, THE ARRAYS AS LISTS**: the char[] at b holds cs, not empty, no char above 255 -/
theorem backArv {p : Program} {l : Launch} {e : Env} {R : Room} {s : State} {args : Array Value} {below : List Frame} {len W : Nat} {Z : State} {a0 : Array Value} {h : Heap} (hZ : Z.Warmed39 s.vm) (hw : ∀ d ∈ words, d.before a0 Z = true) {kI : Nat} (wi : (Jvm.Cond.instantiable ST kI).before a0 Z = true)
    {x b : Addr} {k : ClassId} {zn z : Int32} {cs : List Int32} {dv v0 c0 : Value} (E : RoadKit.Exa Z h x ST) (V : RoadKit.Fld Z h x ST "value" "[B" v0) (C : RoadKit.Fld Z h x ST "coder" "B" c0) (K : RoadKit.Arv Z h b k .char zn (cs.map Value.int) dv) (S : RoadKit.Sta Z h ST "COMPACT_STRINGS" "Z" (.int z)) (hz : ¬ z = 0)
    (hlen : zn.toNatClampNeg = cs.length) (h0 : 0 < cs.length) (hbig : cs.length ≤ 536870912) (hall : ∀ c ∈ cs, ¬ 255 < c) (hfr : 4 ≤ R.frames) (hlo : W + 65 ≤ R.locals) :
    Back l R p e below s args New1.yN len W (fun P a => a = #[.ref x, .ref b] ∧ P.U.heap = h ∧ P.cells + 1 ≤ R.cells ∧ P.slots + cs.length ≤ R.slots)
      (fun P _ v B => ∃ L, QA Z x zn cs h v B.U.heap L ∧ B.locs = P.locs ++ L ∧ B.cells = P.cells + 1 ∧ B.slots = P.slots + cs.length) := by
  obtain ⟨A, K1, K2, K3, K4, K5, K6⟩ := K
  have e : A.slots.size = cs.length := K3.trans hlen
  have hat : ∀ (i : Nat) (hi : i < cs.length), A.slots[i]? = some (.int cs[i]) := fun i hi => by rw [K5 i (by omega)]; simp [List.getD_eq_getElem?_getD, hi]
  have hcv : ∀ (i : Nat) (hi : i < cs.length), cv A i = cs[i] := fun i hi => by unfold cv; rw [hat i hi]
  have hty : Typed .char A := fun i v hv => by
    have hi : i < A.slots.size := (Array.getElem?_eq_some_iff.mp hv).1
    have q := K5 i hi
    rw [hv] at q
    rw [Option.some.inj q]
    exact K6 i hi
  refine Back.mono (back hZ hw wi E V C K1 hty S hz (by omega) (by omega) (fun i hi => by rw [hcv i (by omega)]; exact hall _ (List.getElem_mem _)) hfr hlo) (fun P a hp => ⟨hp.1, hp.2.1, hp.2.2.1, by rw [e]; exact hp.2.2.2⟩) (fun P a v B hp hq => ?_)
  obtain ⟨L, ⟨q1, q2, q3, q4, q5, q6, q7, ⟨V', v1, v2, v3, v4, v5⟩, q9⟩, hl, hc, hs⟩ := hq
  refine ⟨L, ⟨q1, q2, q3, q4, q5, q6, q7, ⟨V'.cls, v3, V', v1, rfl, by rw [v4, e, hlen], K4, fun i hi => ?_, fun i hi => ?_⟩, q9⟩, hl, hc, by rw [hs, e]⟩
  · have hi' : i < cs.length := by omega
    rw [v5 i (by omega), hcv i hi']; simp [List.getD_eq_getElem?_getD, hi']
  · have hi' : i < cs.length := by omega
    simp only [List.getD_eq_getElem?_getD, List.getElem?_map, List.getElem?_eq_getElem hi', Option.map_some, Option.getD_some]
    exact fits_lo8 _
end StrChars.Road
namespace StrChars.Road
open Jvm Sem ClassFile Op Lib Jvm.Stand Jvm.Free Jvm.Free.XT
/-- WHAT COMES BACK, in the writer's own shape -/
def QV (Z : State) (x : Addr) (N : Int32) (bs : List Int32) (h : Heap) (n0 : Nat) (v : Option Value) (h' : Heap) (L : List Loc) : Prop := v = none ∧ RoadKit.Fr n0 L ∧ RoadKit.Keep h h' [x] ∧ RoadKit.Exa Z h' x ST ∧ RoadKit.Fld Z h' x ST "coder" "B" (.int 0) ∧
  ∃ (t : Addr) (kb : ClassId), n0 ≤ t ∧ h.size ≤ t ∧ ¬ t = x ∧ RoadKit.Fld Z h' x ST "value" "[B" (.ref t) ∧ RoadKit.Arv Z h' t kb .byte N (bs.map Value.int) (.int 0)
/-- **new String(chars) AT A CALL, FOR THE WRITER**: a char[] of n known ints, each 0 to 255 -/
theorem backV {p : Program} {l : Launch} {e : Env} {R : Room} {s : State} {args : Array Value} {below : List Frame} {len W : Nat} {Z : State} {a0 : Array Value} {h : Heap} (hZ : Z.Warmed39 s.vm) (hw : ∀ d ∈ words, d.before a0 Z = true) {kI : Nat} (wi : (Jvm.Cond.instantiable ST kI).before a0 Z = true)
    {x b : Addr} {kC : ClassId} {cs bs : List Int32} {d v0 c0 : Value} {z N : Int32} {n n0 : Nat} (hx0 : n0 ≤ x) (hh0 : n0 ≤ h.size) (E : RoadKit.Exa Z h x ST) (V : RoadKit.Fld Z h x ST "value" "[B" v0) (C : RoadKit.Fld Z h x ST "coder" "B" c0) (K : RoadKit.Arv Z h b kC .char N (cs.map Value.int) d) (S : RoadKit.Sta Z h ST "COMPACT_STRINGS" "Z" (.int z)) (hz : ¬ z = 0)
    (hn : cs.length = n) (hN : N = Int32.ofNat n) (l0 : 0 < n) (l2 : n ≤ 4000) (hp : ∀ c ∈ cs, ¬ c < 0 ∧ ¬ (255 : Int32) < c) (hb : bs = cs.map (fun c => c.toInt8.toInt32)) (hfr : 4 ≤ R.frames) (hlo : W + 65 ≤ R.locals) :
    Back l R p e below s args (⟨"java/lang/String", "<init>", "([C)V"⟩ : MethodName) len W (fun P a => a = #[.ref x, .ref b] ∧ P.U.heap = h ∧ P.cells + 1 ≤ R.cells ∧ P.slots + n ≤ R.slots)
      (fun P _ v B => ∃ L, QV Z x N bs h n0 v B.U.heap L ∧ B.locs = P.locs ++ L ∧ B.cells = P.cells + 1 ∧ B.slots = P.slots + n) := by
  subst hn hN hb
  refine Back.mono (backArv hZ hw wi E V C K S hz (n32 (by omega)) l0 (by omega) (fun c hc => (hp c hc).2) hfr hlo) (fun P a hp => hp) (fun P a v B hp hq => ?_)
  obtain ⟨L, ⟨q1, q2, q3, q4, q5, q6, q7, ⟨kb, v1, v2⟩, q9⟩, hl, hc, hs⟩ := hq
  exact ⟨L, ⟨q1, fun y hy => by rw [q2 y hy]; exact hx0, q3, q5, q7, h.size, kb, hh0, Nat.le_refl _, Nat.ne_of_gt E.lt, q6, by rw [List.map_map]; exact v2⟩, hl, hc, hs⟩
end StrChars.Road
namespace StrChars
open Jvm Sem ClassFile Op Lib Jvm.Stand Jvm.Free.XT Jvm.Free.ALB Jvm.Free.JM Jvm.Free
open Jvm.Lib.Cold (StaticIs)
def hi8 (x : Int32) : Int32 := lo8 (x >>> ((8 : Int32) &&& 31))
/-- what StringUTF16.getChar makes of two bytes -/
def pairCh (u v : Int32) : Int32 := (((u &&& 255) <<< ((0 : Int32) &&& 31)) ||| ((v &&& 255) <<< ((8 : Int32) &&& 31))).toUInt32.toUInt16.toUInt32.toInt32
theorem shr0 (c : Int32) : c >>> ((0 : Int32) &&& 31) = c := by
  have e : ((0 : Int32) &&& 31) = 0 := by decide
  rw [e]
  apply Int32.toBitVec_inj.mp
  rw [Int32.toBitVec_shiftRight]
  have e1 : ((0 : Int32).toBitVec.smod 32) = 0#32 := by decide
  rw [e1, BitVec.sshiftRight_eq']
  exact BitVec.sshiftRight_zero
theorem lo8_and (x : Int32) : (lo8 x &&& 255).toBitVec.toNat = x.toBitVec.toNat % 256 := by
  have h : (lo8 x).toBitVec = (x.toBitVec.signExtend 8).signExtend 32 := by rw [lo8, Int8.toBitVec_toInt32, Int32.toBitVec_toInt8]
  rw [Int32.toBitVec_and, BitVec.toNat_and, h]
  have e : ((x.toBitVec.signExtend 8).signExtend 32).toNat % 256 = x.toBitVec.toNat % 256 := by
    rw [BitVec.toNat_signExtend]
    have hlt := x.toBitVec.isLt
    simp only [BitVec.toNat_setWidth, BitVec.toNat_signExtend]
    split <;> split <;> omega
  rw [← e]
  exact Nat.and_two_pow_sub_one_eq_mod _ 8
theorem pair_says {c : Int32} (h0 : ¬ c < 0) (h1 : ¬ 65535 < c) : pairCh (lo8 c) (hi8 c) = c := by
  rw [Int32.lt_iff_toInt_lt] at h0 h1
  have e0 : (0 : Int32).toInt = 0 := rfl
  have e1 : (65535 : Int32).toInt = 65535 := rfl
  have hc : c.toInt = c.toBitVec.toNat := by
    have := c.toBitVec.isLt
    have e : c.toInt = c.toBitVec.toInt := rfl
    rw [e] at h0 h1
    rw [e]
    rw [BitVec.toInt_eq_toNat_cond] at h0 h1 ⊢
    split at h0 <;> split <;> omega
  have hn : c.toBitVec.toNat < 65536 := by omega
  have a1 := lo8_and c
  have a2 : (hi8 c &&& 255).toBitVec.toNat = c.toBitVec.toNat / 256 := by
    rw [hi8, lo8_and]
    have e : ((8 : Int32) &&& 31) = 8 := by decide
    rw [e, Int32.toBitVec_shiftRight]
    have e2 : ((8 : Int32).toBitVec.smod 32) = 8#32 := by decide
    rw [e2, BitVec.sshiftRight_eq', BitVec.toNat_sshiftRight_of_msb_false (by rw [BitVec.msb_eq_false_iff_two_mul_lt]; omega)]
    show c.toBitVec.toNat >>> 8 % 256 = _
    rw [Nat.shiftRight_eq_div_pow]
    omega
  unfold pairCh
  apply Int32.toBitVec_inj.mp
  apply BitVec.eq_of_toNat_eq
  have f0 : ((0 : Int32) &&& 31) = 0 := by decide
  have f8 : ((8 : Int32) &&& 31) = 8 := by decide
  rw [f0, f8]
  have g : (((lo8 c &&& 255) <<< (0 : Int32)) ||| ((hi8 c &&& 255) <<< (8 : Int32))).toBitVec.toNat = c.toBitVec.toNat := by
    rw [Int32.toBitVec_or, Int32.toBitVec_shiftLeft, Int32.toBitVec_shiftLeft]
    have s0 : ((0 : Int32).toBitVec.smod 32) = 0#32 := by decide
    have s8 : ((8 : Int32).toBitVec.smod 32) = 8#32 := by decide
    rw [s0, s8, BitVec.toNat_or]
    simp only [BitVec.shiftLeft_eq', BitVec.toNat_shiftLeft, a1, a2]
    show (c.toBitVec.toNat % 256) <<< 0 % 2 ^ 32 ||| (c.toBitVec.toNat / 256) <<< 8 % 2 ^ 32 = _
    rw [Nat.shiftLeft_zero, Nat.mod_eq_of_lt (show c.toBitVec.toNat % 256 < 2 ^ 32 by omega), Nat.mod_eq_of_lt (show (c.toBitVec.toNat / 256) <<< 8 < 2 ^ 32 by rw [Nat.shiftLeft_eq]; omega), Nat.or_comm, ← Nat.shiftLeft_add_eq_or_of_lt (by omega), Nat.shiftLeft_eq]
    omega
  show BitVec.toNat (((((lo8 c &&& 255) <<< (0 : Int32)) ||| ((hi8 c &&& 255) <<< (8 : Int32))).toBitVec.setWidth 16).setWidth 32) = _
  rw [BitVec.toNat_setWidth, BitVec.toNat_setWidth, g]
  omega
end StrChars
namespace StrChars
open Jvm Sem ClassFile Op Lib Jvm.Stand Jvm.Free.XT Jvm.Free.ALB Jvm.Free.JM Jvm.Free
open Jvm.Lib.Cold (StaticIs)
theorem shr1 {n : Nat} (h : 2 * n < 2 ^ 31) : Int32.ofNat (2 * n) >>> ((1 : Int32) &&& 31) = Int32.ofNat n := by
  have e : ((1 : Int32) &&& 31) = 1 := by decide
  rw [e]
  apply Int32.toBitVec_inj.mp
  rw [Int32.toBitVec_shiftRight]
  have e1 : ((1 : Int32).toBitVec.smod 32) = 1#32 := by decide
  have hm : (BitVec.ofNat 32 (2 * n)).toNat = 2 * n := by rw [BitVec.toNat_ofNat, Nat.mod_eq_of_lt (by omega)]
  rw [e1, BitVec.sshiftRight_eq']
  apply BitVec.eq_of_toNat_eq
  show ((BitVec.ofNat 32 (2 * n)).sshiftRight 1).toNat = (BitVec.ofNat 32 n).toNat
  rw [BitVec.toNat_sshiftRight_of_msb_false (by rw [BitVec.msb_eq_false_iff_two_mul_lt, hm]; omega), hm, BitVec.toNat_ofNat, Nat.shiftRight_eq_div_pow]
  omega
/-- charAt's cast of a byte read back -/
def chr8 (u : Int32) : Int32 := (u &&& 255).toUInt32.toUInt16.toUInt32.toInt32
theorem chr8_lo8 {c : Int32} (h0 : ¬ c < 0) (h1 : ¬ 255 < c) : chr8 (lo8 c) = c := by
  have t : ∀ k : Fin 256, (Int32.ofNat k.val).toUInt32.toUInt16.toUInt32.toInt32 = Int32.ofNat k.val := by decide +kernel
  unfold chr8
  rw [lo8_mask h0 h1]
  rw [Int32.lt_iff_toInt_lt] at h0 h1
  have e0 : (0 : Int32).toInt = 0 := rfl
  have e1 : (255 : Int32).toInt = 255 := rfl
  obtain ⟨k, hk⟩ : ∃ k : Nat, c.toInt = k := ⟨c.toInt.toNat, by omega⟩
  have hx : c = Int32.ofNat k := Int32.toInt_inj.mp (by rw [hk, Int32.toInt_ofNat_small (by omega)])
  rw [hx]
  exact t ⟨k, by omega⟩
theorem narrow_ch {c : Int32} (h0 : ¬ c < 0) (h1 : ¬ 65535 < c) : narrow .char (.int c) = .int c := by
  have q : narrow .char (.int (pairCh (lo8 c) (hi8 c))) = .int (pairCh (lo8 c) (hi8 c)) := narrow_c _
  rwa [pair_says h0 h1] at q
/-- the array's cell V codes the n chars f 0 .. f (n - 1) by the coder cd, as the JDK does: coder 1 just where some char is above 255 -/
def Cod (cd : Int32) (n : Nat) (f : Nat → Int32) (V : Cell) : Prop := (cd = 0 ∧ V.slots.size = n ∧ ∀ j, j < n → V.slots[j]? = some (.int (lo8 (f j))) ∧ ¬ 255 < f j) ∨ (cd = 1 ∧ V.slots.size = 2 * n ∧ (∀ j, j < n → V.slots[2 * j]? = some (.int (lo8 (f j))) ∧ V.slots[2 * j + 1]? = some (.int (hi8 (f j)))) ∧ ∃ j, j < n ∧ 255 < f j)
theorem Cod.cd {cd : Int32} {n : Nat} {f : Nat → Int32} {V : Cell} (h : Cod cd n f V) : cd = 0 ∨ cd = 1 := h.imp (fun q => q.1) fun q => q.1
theorem Cod.len {cd : Int32} {n : Nat} {f : Nat → Int32} {V : Cell} (h : Cod cd n f V) (hs : V.slots.size < 2 ^ 31) : Int32.ofNat V.slots.size >>> (cd &&& 31) = Int32.ofNat n := by
  rcases h with ⟨rfl, h, -⟩ | ⟨rfl, h, -⟩
  · rw [shr0, h]
  · rw [h, shr1 (by omega)]
/-- **x is a String of the n chars f 0 .. f (n - 1)**, Latin-1 or UTF-16; its array at t has the cell V -/
def Txt (x t : Addr) (V : Cell) (cd : Int32) (n : Nat) (f : Nat → Int32) (U : State) : Prop := Exact "java/lang/String" x U ∧ Has x "java/lang/String" "value" "[B" (.ref t) U ∧ Has x "java/lang/String" "coder" "B" (.int cd) U ∧ XT.Arr .byte t V U ∧ Cod cd n f V ∧ ∀ j, j < n → ¬ f j < 0 ∧ ¬ 65535 < f j
theorem Txt.mv {x t : Addr} {V : Cell} {cd : Int32} {n : Nat} {f : Nat → Int32} {U U' : State} (h : Txt x t V cd n f U) (hal : U.vm.Alike U'.vm) (hh : U'.heap = U.heap) : Txt x t V cd n f U' := ⟨h.1.mv hal hh, h.2.1.mv hal hh, h.2.2.1.mv hal hh, h.2.2.2.1.mv hal hh, h.2.2.2.2⟩
namespace Cdr
def yN : MethodName := ⟨"java/lang/String", "coder", "()B"⟩
abbrev yB : ByteArray := jdk_42_method_152_code
theorem d0 : decode yB 0 = .ok (.getstatic 38, 3) := by decide +kernel
theorem d3 : decode yB 3 = .ok (.ifCond (.eq) 10, 3) := by decide +kernel
theorem d6 : decode yB 6 = .ok (.aload_n 0, 1) := by decide +kernel
theorem d7 : decode yB 7 = .ok (.getfield 15, 3) := by decide +kernel
theorem d10 : decode yB 10 = .ok (.goto 4, 3) := by decide +kernel
theorem d14 : decode yB 14 = .ok (.ireturn, 1) := by decide +kernel
def site : List Cond := [.fieldLink "java/lang/String" 38 "java/lang/String" "COMPACT_STRINGS" "Z", .fieldLink "java/lang/String" 15 "java/lang/String" "coder" "B"]
def tab : Cond := tabOf yN yB 1 (some .byte) site
def P (x : Addr) (cd z : Int32) (args : Array Value) (s : State) : Prop := args = #[.ref x] ∧ Has x "java/lang/String" "coder" "B" (.int cd) s ∧ (cd = 0 ∨ cd = 1) ∧ StaticIs s "java/lang/String" "COMPACT_STRINGS" "Z" (.int z) ∧ ¬ z = 0
def E (cd : Int32) (r : Option Value) (s u : State) : Prop := XT.PureE (some (.int cd)) r s u
theorem law (l : Launch) (x : Addr) (cd z : Int32) : Law l yN 1 0 0 0 yB 1 (some .byte) site (P x cd z) (E cd) [] 0 0 := by
  refine Law.of_walk (plainFor_of_name (by decide +kernel)) (by decide +kernel) (by decide +kernel) (by decide) (fun _ _ h => by rw [h.1]; rfl) (fun _ U U' hal hh h => ⟨h.1, h.2.1.mv hal hh, h.2.2.1, h.2.2.2.1.there hal hh, h.2.2.2.2⟩) (fun r U U' V V' h1 hal h2 h => XT.PureE.mv r U U' V V' h1 hal h2 h) ?_
  intro p e s m args below meth c s₁ X0 hexec hbytes hml hret hlk hnm hown hh0 W hP
  obtain ⟨rfl, hx, hc, s1, hz⟩ := hP
  have c1 : Steps p.tables e below (s₁.setTop (entryFrame m #[.ref x] 1)) (s₁.setTop (mkF m 0 #[.val (.ref x)] [])) := entry rfl
  obtain ⟨T2, X2, q2, st2⟩ := X0.sget hexec hown (wk W (.fieldLink "java/lang/String" 38 "java/lang/String" "COMPACT_STRINGS" "Z")) s1 (fun _ _ h => by rw [hh0]; exact h) (g := (mkF m 0 #[.val (.ref x)] [])) rfl (hb hbytes d0)
  have hh2 := q2.trans hh0
  have c3 : Steps p.tables e below (s₁.setTop (entryFrame m #[.ref x] 1)) (T2.setTop (mkF m 7 #[.val (.ref x)] [.ref x])) := (c1.trans (st2 _ (Steps.refl _))).trans (by
    refine XS.ifNo X2.here hexec rfl (hb hbytes d3) rfl (i0_eq_f hz) ?_
    refine XS.aloadN X2.here hexec rfl (hb hbytes d6) rfl rfl ?_
    exact Steps.refl _)
  obtain ⟨T4, X4, q4, st4⟩ := X2.hget hexec hown (wk W (.fieldLink "java/lang/String" 15 "java/lang/String" "coder" "B")) (hx.mv X2.warmed.alike hh2) (g := (mkF m 7 #[.val (.ref x)] [.ref x])) rfl (rest := []) rfl (hb hbytes d7)
  have c5 : Steps p.tables e below (s₁.setTop (entryFrame m #[.ref x] 1)) (T4.setTop (mkF m 14 #[.val (.ref x)] [.int cd])) := (c3.trans (st4 _ (Steps.refl _))).trans (by
    refine XS.goto X4.here hexec rfl (pc0 := 10) rfl (hb hbytes d10) (by decide) rfl ?_
    exact Steps.refl _)
  exact ⟨T4, some (.int cd), _, _, _, X4, rfl, rfl, rfl, (fun h => by cases h), ⟨rfl, q4.trans hh2⟩, fun fs hl => c5.trans (X4.ireturnOut hexec hret (by rcases hc with rfl | rfl <;> rfl) (Or.inr (Or.inr (Or.inl rfl))) (hb hbytes d14) hl)⟩
end Cdr
namespace Len
def yN : MethodName := ⟨"java/lang/String", "length", "()I"⟩
abbrev yB : ByteArray := jdk_42_method_54_code
theorem d0 : decode yB 0 = .ok (.aload_n 0, 1) := by decide +kernel
theorem d1 : decode yB 1 = .ok (.getfield 9, 3) := by decide +kernel
theorem d4 : decode yB 4 = .ok (.arraylength, 1) := by decide +kernel
theorem d5 : decode yB 5 = .ok (.aload_n 0, 1) := by decide +kernel
theorem d6 : decode yB 6 = .ok (.invokevirtual 335, 3) := by decide +kernel
theorem d9 : decode yB 9 = .ok (.ishr, 1) := by decide +kernel
theorem d10 : decode yB 10 = .ok (.ireturn, 1) := by decide +kernel
def site : List Cond := [.fieldLink "java/lang/String" 9 "java/lang/String" "value" "[B", Cdr.tab] ++ virtW "java/lang/String" 335 "java/lang/String" Cdr.yN Cdr.yN
def tab : Cond := tabOf yN yB 1 (some .int) site
def P (x t : Addr) (V : Cell) (cd : Int32) (n : Nat) (f : Nat → Int32) (z : Int32) (args : Array Value) (s : State) : Prop := args = #[.ref x] ∧ Txt x t V cd n f s ∧ StaticIs s "java/lang/String" "COMPACT_STRINGS" "Z" (.int z) ∧ ¬ z = 0
def E (n : Nat) (r : Option Value) (s u : State) : Prop := XT.PureE (some (.int (Int32.ofNat n))) r s u
/-- length() of a String of n chars, in either coding -/
theorem law (l : Launch) (x t : Addr) (V : Cell) (cd : Int32) (n : Nat) (f : Nat → Int32) (z : Int32) : Law l yN 1 0 1 13 yB 1 (some .int) site (P x t V cd n f z) (E n) [] 0 0 := by
  refine Law.of_walk (plainFor_of_name (by decide +kernel)) (by decide +kernel) (by decide +kernel) (by decide) (fun _ _ h => by rw [h.1]; rfl) (fun _ U U' hal hh h => ⟨h.1, h.2.1.mv hal hh, h.2.2.1.there hal hh, h.2.2.2⟩) (fun r U U' V V' h1 hal h2 h => XT.PureE.mv r U U' V V' h1 hal h2 h) ?_
  intro p e s m args below meth c s₁ X0 hexec hbytes hml hret hlk hnm hown hh0 W hP
  obtain ⟨rfl, hx, s1, hz⟩ := hP
  have v31 := hx.2.2.2.1.2.2.2
  have c1 : Steps p.tables e below (s₁.setTop (entryFrame m #[.ref x] 1)) (s₁.setTop (mkF m 1 #[.val (.ref x)] [.ref x])) := Steps.trans (entry rfl) (by
    show Steps p.tables e below (s₁.setTop (mkF m 0 #[.val (.ref x)] [])) _
    refine XS.aloadN X0.here hexec rfl (hb hbytes d0) rfl rfl ?_
    exact Steps.refl _)
  obtain ⟨T2, X2, q2, st2⟩ := X0.hget hexec hown (wk W (.fieldLink "java/lang/String" 9 "java/lang/String" "value" "[B")) (hx.mv X0.warmed.alike hh0).2.1 (g := (mkF m 1 #[.val (.ref x)] [.ref x])) rfl (rest := []) rfl (hb hbytes d1)
  have hh2 := q2.trans hh0
  have hx2 := hx.mv X2.warmed.alike hh2
  have c3 : Steps p.tables e below (s₁.setTop (entryFrame m #[.ref x] 1)) (T2.setTop (mkF m 6 #[.val (.ref x)] [.ref x, .int (Int32.ofNat V.slots.size)])) := (c1.trans (st2 _ (Steps.refl _))).trans (by
    refine X2.alen hexec hx2.2.2.2.1 rfl rfl (hb hbytes d4) ?_
    refine XS.aloadN X2.here hexec rfl (hb hbytes d5) rfl rfl ?_
    exact Steps.refl _)
  obtain ⟨v4, T4, X4, E4, g4⟩ := X2.callV hexec (Cdr.law l x cd z) hown (wks W (virtW "java/lang/String" 335 "java/lang/String" Cdr.yN Cdr.yN)) rfl (by decide) (wk W Cdr.tab) (W := 1) (Nat.le_of_ble_eq_true rfl) (Nat.le_of_ble_eq_true rfl) (Nat.le_refl _) (Nat.le_refl _) (hx2.1.fc X2.warmed.alike) hx2.1.is (g := (mkF m 6 #[.val (.ref x)] [.ref x, .int (Int32.ofNat V.slots.size)])) rfl (by rw [hml]; rfl) c3 (argsL := []) (rest := [.int (Int32.ofNat V.slots.size)]) rfl rfl (by show 2 * 0 + (1 + 0) ≤ _; decide) (hb hbytes d6) (⟨rfl, hx2.2.2.1, hx.2.2.2.2.1.cd, s1.there X2.warmed.alike hh2, hz⟩)
  obtain ⟨rfl, q4⟩ := E4
  have c5 : Steps p.tables e below (s₁.setTop (entryFrame m #[.ref x] 1)) (T4.setTop (mkF m 10 #[.val (.ref x)] [.int (Int32.ofNat V.slots.size >>> (cd &&& 31))])) := Steps.trans g4 (by
    refine ishr X4.here hexec rfl (hb hbytes d9) rfl ?_
    exact Steps.refl _)
  rw [hx.2.2.2.2.1.len v31] at c5
  exact ⟨T4, some (.int (Int32.ofNat n)), _, _, _, X4, rfl, rfl, rfl, (fun h => by cases h), ⟨rfl, q4.trans hh2⟩, fun fs hl => c5.trans (X4.ireturnOut hexec hret rfl (Or.inl rfl) (hb hbytes d10) hl)⟩
theorem pays {l : Launch} {R : Room} {p : Program} {e : Env} {below : List Frame} {s : State} {sargs : Array Value} {len W : Nat} (x t : Addr) (V : Cell) (cd : Int32) (n : Nat) (f : Nat → Int32) (z : Int32) (htab : tab.before sargs s = true) (hfr : 2 ≤ R.frames) (hlo : W + 25 ≤ R.locals) :
    Back l R p e below s sargs yN len W (fun A₁ a₁ => A₁.cells + 0 ≤ R.cells ∧ A₁.slots + 0 ≤ R.slots ∧ P x t V cd n f z a₁ A₁.U) (fun A₁ _ v₁ B₁ => E n v₁ A₁.U B₁.U ∧ B₁.locs = A₁.locs ++ [] ∧ B₁.cells = A₁.cells + 0 ∧ B₁.slots = A₁.slots + 0) :=
  (law l x t V cd n f z).pays htab hfr (by omega)
end Len
namespace IsL
def yN : MethodName := ⟨"java/lang/String", "isLatin1", "()Z"⟩
abbrev yB : ByteArray := jdk_42_method_154_code
theorem d0 : decode yB 0 = .ok (.getstatic 38, 3) := by decide +kernel
theorem d3 : decode yB 3 = .ok (.ifCond (.eq) 14, 3) := by decide +kernel
theorem d6 : decode yB 6 = .ok (.aload_n 0, 1) := by decide +kernel
theorem d7 : decode yB 7 = .ok (.getfield 15, 3) := by decide +kernel
theorem d10 : decode yB 10 = .ok (.ifCond (.ne) 7, 3) := by decide +kernel
theorem d13 : decode yB 13 = .ok (.iconst 1, 1) := by decide +kernel
theorem d14 : decode yB 14 = .ok (.goto 4, 3) := by decide +kernel
theorem d17 : decode yB 17 = .ok (.iconst 0, 1) := by decide +kernel
theorem d18 : decode yB 18 = .ok (.ireturn, 1) := by decide +kernel
def site : List Cond := [.fieldLink "java/lang/String" 38 "java/lang/String" "COMPACT_STRINGS" "Z", .fieldLink "java/lang/String" 15 "java/lang/String" "coder" "B"]
def tab : Cond := tabOf yN yB 1 (some .boolean) site
def P (x : Addr) (cd z : Int32) (args : Array Value) (s : State) : Prop := args = #[.ref x] ∧ Has x "java/lang/String" "coder" "B" (.int cd) s ∧ (cd = 0 ∨ cd = 1) ∧ StaticIs s "java/lang/String" "COMPACT_STRINGS" "Z" (.int z) ∧ ¬ z = 0
def E (cd : Int32) (r : Option Value) (s u : State) : Prop := XT.PureE (some (.int (1 - cd))) r s u
theorem law (l : Launch) (x : Addr) (cd z : Int32) : Law l yN 1 0 0 0 yB 1 (some .boolean) site (P x cd z) (E cd) [] 0 0 := by
  refine Law.of_walk (plainFor_of_name (by decide +kernel)) (by decide +kernel) (by decide +kernel) (by decide) (fun _ _ h => by rw [h.1]; rfl) (fun _ U U' hal hh h => ⟨h.1, h.2.1.mv hal hh, h.2.2.1, h.2.2.2.1.there hal hh, h.2.2.2.2⟩) (fun r U U' V V' h1 hal h2 h => XT.PureE.mv r U U' V V' h1 hal h2 h) ?_
  intro p e s m args below meth c s₁ X0 hexec hbytes hml hret hlk hnm hown hh0 W hP
  obtain ⟨rfl, hx, hc, s1, hz⟩ := hP
  have c1 : Steps p.tables e below (s₁.setTop (entryFrame m #[.ref x] 1)) (s₁.setTop (mkF m 0 #[.val (.ref x)] [])) := entry rfl
  obtain ⟨T2, X2, q2, st2⟩ := X0.sget hexec hown (wk W (.fieldLink "java/lang/String" 38 "java/lang/String" "COMPACT_STRINGS" "Z")) s1 (fun _ _ h => by rw [hh0]; exact h) (g := (mkF m 0 #[.val (.ref x)] [])) rfl (hb hbytes d0)
  have hh2 := q2.trans hh0
  have c3 : Steps p.tables e below (s₁.setTop (entryFrame m #[.ref x] 1)) (T2.setTop (mkF m 7 #[.val (.ref x)] [.ref x])) := (c1.trans (st2 _ (Steps.refl _))).trans (by
    refine XS.ifNo X2.here hexec rfl (hb hbytes d3) rfl (i0_eq_f hz) ?_
    refine XS.aloadN X2.here hexec rfl (hb hbytes d6) rfl rfl ?_
    exact Steps.refl _)
  obtain ⟨T4, X4, q4, st4⟩ := X2.hget hexec hown (wk W (.fieldLink "java/lang/String" 15 "java/lang/String" "coder" "B")) (hx.mv X2.warmed.alike hh2) (g := (mkF m 7 #[.val (.ref x)] [.ref x])) rfl (rest := []) rfl (hb hbytes d7)
  have c5 : Steps p.tables e below (s₁.setTop (entryFrame m #[.ref x] 1)) (T4.setTop (mkF m 10 #[.val (.ref x)] [.int cd])) := c3.trans (st4 _ (Steps.refl _))
  have c6 : Steps p.tables e below (s₁.setTop (entryFrame m #[.ref x] 1)) (T4.setTop (mkF m 18 #[.val (.ref x)] [.int (1 - cd)])) := by
    rcases hc with rfl | rfl
    · exact c5.trans (by
        refine XS.ifNo X4.here hexec rfl (hb hbytes d10) rfl (i0_ne_f rfl) ?_
        refine iconstV X4.here hexec rfl 1 (hb hbytes d13) (by decide) ?_
        refine XS.goto X4.here hexec rfl (pc0 := 14) rfl (hb hbytes d14) (by decide) rfl ?_
        exact Steps.refl _)
    · exact c5.trans (by
        refine XS.ifYes X4.here hexec rfl (pc0 := 10) rfl (hb hbytes d10) rfl (i0_ne_t (by decide)) (by decide) rfl ?_
        refine iconstV X4.here hexec rfl 0 (hb hbytes d17) (by decide) ?_
        exact Steps.refl _)
  exact ⟨T4, some (.int (1 - cd)), _, _, _, X4, rfl, rfl, rfl, (fun h => by cases h), ⟨rfl, q4.trans hh2⟩, fun fs hl => c6.trans (X4.ireturnOut hexec hret (by rcases hc with rfl | rfl <;> rfl) (Or.inr (Or.inl rfl)) (hb hbytes d18) hl)⟩
end IsL
namespace LChA
def yN : MethodName := ⟨"java/lang/StringLatin1", "charAt", "([BI)C"⟩
abbrev yB : ByteArray := jdk_43_method_2_code
theorem d0 : decode yB 0 = .ok (.iload_n 1, 1) := by decide +kernel
theorem d1 : decode yB 1 = .ok (.aload_n 0, 1) := by decide +kernel
theorem d2 : decode yB 2 = .ok (.arraylength, 1) := by decide +kernel
theorem d3 : decode yB 3 = .ok (.invokestatic 9, 3) := by decide +kernel
theorem d6 : decode yB 6 = .ok (.aload_n 0, 1) := by decide +kernel
theorem d7 : decode yB 7 = .ok (.iload_n 1, 1) := by decide +kernel
theorem d8 : decode yB 8 = .ok (.baload, 1) := by decide +kernel
theorem d9 : decode yB 9 = .ok (.sipush 255, 3) := by decide +kernel
theorem d12 : decode yB 12 = .ok (.iand, 1) := by decide +kernel
theorem d13 : decode yB 13 = .ok (.i2c, 1) := by decide +kernel
theorem d14 : decode yB 14 = .ok (.ireturn, 1) := by decide +kernel
def site : List Cond := [JO.Str_checkIndex.tab] ++ staticW "java/lang/StringLatin1" 9 JO.Str_checkIndex.yN
def tab : Cond := tabOf yN yB 2 (some .char) site
def P (t : Addr) (V : Cell) (i : Nat) (u : Int32) (fm : Value) (args : Array Value) (s : State) : Prop := args = #[.ref t, .int (Int32.ofNat i)] ∧ XT.Arr .byte t V s ∧ V.slots[i]? = some (.int u) ∧ (StaticIs s "jdk/internal/util/Preconditions" "SIOOBE_FORMATTER" "Ljava/util/function/BiFunction;" fm ∧ fm.isRef = true)
def E (u : Int32) (r : Option Value) (s w : State) : Prop := XT.PureE (some (.int (chr8 u))) r s w
theorem law (l : Launch) (t : Addr) (V : Cell) (i : Nat) (u : Int32) (fm : Value) : Law l yN 2 2 2 27 yB 2 (some .char) site (P t V i u fm) (E u) [] 0 0 := by
  refine Law.of_walk (plainFor_of_name (by decide +kernel)) (by decide +kernel) (by decide +kernel) (by decide) (fun _ _ h => by rw [h.1]; rfl) (fun _ U U' hal hh h => ⟨h.1, h.2.1.mv hal hh, h.2.2.1, h.2.2.2.1.there hal hh, h.2.2.2.2⟩) (fun r U U' V V' h1 hal h2 h => XT.PureE.mv r U U' V V' h1 hal h2 h) ?_
  intro p e s m args below meth c s₁ X0 hexec hbytes hml hret hlk hnm hown hh0 W hP
  obtain ⟨rfl, hV, hu, s1, rf⟩ := hP
  have v31 := hV.2.2.2
  have hi : i < V.slots.size := (Array.getElem?_eq_some_iff.mp hu).1
  have c1 : Steps p.tables e below (s₁.setTop (entryFrame m #[.ref t, .int (Int32.ofNat i)] 2)) (s₁.setTop (mkF m 0 #[.val (.ref t), .val (.int (Int32.ofNat i))] [])) := entry rfl
  have c2 : Steps p.tables e below (s₁.setTop (entryFrame m #[.ref t, .int (Int32.ofNat i)] 2)) (s₁.setTop (mkF m 3 #[.val (.ref t), .val (.int (Int32.ofNat i))] [.int (Int32.ofNat V.slots.size), .int (Int32.ofNat i)])) := c1.trans (by
    refine XS.iloadN X0.here hexec rfl (hb hbytes d0) rfl ?_
    refine XS.aloadN X0.here hexec rfl (hb hbytes d1) rfl rfl ?_
    refine X0.alen hexec (hV.mv X0.warmed.alike hh0) rfl rfl (hb hbytes d2) ?_
    exact Steps.refl _)
  obtain ⟨v3, T3, X3, E3, g3⟩ := X0.callS hexec (JO.Str_checkIndex.law l (Int32.ofNat i) (Int32.ofNat V.slots.size) fm) hown (wks W (staticW "java/lang/StringLatin1" 9 JO.Str_checkIndex.yN)) (wk W JO.Str_checkIndex.tab) (W := 0) (Nat.le_of_ble_eq_true rfl) (Nat.le_of_ble_eq_true rfl) (Nat.le_refl _) (Nat.le_refl _) (g := (mkF m 3 #[.val (.ref t), .val (.int (Int32.ofNat i))] [.int (Int32.ofNat V.slots.size), .int (Int32.ofNat i)])) rfl (by rw [hml]; rfl) c2 (argsL := [.int (Int32.ofNat i), .int (Int32.ofNat V.slots.size)]) (rest := []) rfl rfl (by show 2 * 0 + 0 ≤ _; decide) (hb hbytes d3) (⟨rfl, rf, s1.there X0.warmed.alike hh0, Int32.ofNat_not_neg (by omega), lt32 v31 hi⟩)
  obtain ⟨rfl, q3⟩ := E3
  have hh3 := q3.trans hh0
  have c4 : Steps p.tables e below (s₁.setTop (entryFrame m #[.ref t, .int (Int32.ofNat i)] 2)) (T3.setTop (mkF m 14 #[.val (.ref t), .val (.int (Int32.ofNat i))] [.int (chr8 u)])) := Steps.trans g3 (by
    refine XS.aloadN X3.here hexec rfl (hb hbytes d6) rfl rfl ?_
    refine XS.iloadN X3.here hexec rfl (hb hbytes d7) rfl ?_
    refine X3.aget hexec (hV.mv X3.warmed.alike hh3) rfl hu rfl rfl (hb hbytes d8) ?_
    refine sipushV X3.here hexec rfl 255 (hb hbytes d9) (by decide) ?_
    refine XS.iand X3.here hexec rfl (hb hbytes d12) rfl ?_
    refine i2c X3.here hexec rfl (hb hbytes d13) rfl ?_
    exact Steps.refl _)
  exact ⟨T3, some (.int (chr8 u)), _, _, _, X3, rfl, rfl, rfl, (fun h => by cases h), ⟨rfl, hh3⟩, fun fs hl => c4.trans (X3.ireturnOut hexec hret (narrow_c _) (Or.inr (Or.inr (Or.inr (Or.inl rfl)))) (hb hbytes d14) hl)⟩
end LChA
end StrChars
namespace StrChars.Road
open Jvm Sem ClassFile Op Lib Jvm.Stand Jvm.Free Jvm.Free.XT
open Jvm.Lib.Cold (StaticIs)
theorem consq {a : Array Value} {s : State} {c : Jvm.Cond} {L : List Jvm.Cond} (h0 : c.before a s = true) (h : ∀ w ∈ L, w.before a s = true) : ∀ w ∈ c :: L, w.before a s = true := fun w hw => (List.mem_cons.mp hw).elim (fun e => e ▸ h0) (h w)
/-- the words of String.length(), either coding -/
abbrev wordsLen : List Jvm.Cond := [.code Len.yN Len.yB 1 (some .int), .initialized ST, .fieldLink ST 9 ST "value" "[B", .fieldLink ST 38 ST "COMPACT_STRINGS" "Z", .fieldLink ST 15 ST "coder" "B", .code Cdr.yN Cdr.yB 1 (some .byte), .methodLink ST 335 Cdr.yN, .declares Cdr.yN, .selects ST Cdr.yN Cdr.yN, .instanceMethod Cdr.yN]
theorem tabLen_of {a : Array Value} {s : State} (h : ∀ w ∈ wordsLen, w.before a s = true) : Len.tab.before a s = true := by
  have hc : Cdr.tab.before a s = true := unparts (wk h (.code Cdr.yN Cdr.yB 1 (some .byte))) (wks h (.initialized Cdr.yN.cls :: Cdr.site))
  have q := consq hc h
  exact unparts (wk q (.code Len.yN Len.yB 1 (some .int))) (wks q (.initialized Len.yN.cls :: Len.site))
theorem movedLen {Z s : State} {a0 args : Array Value} (hZ : Z.Warmed39 s.vm) (hw : ∀ d ∈ wordsLen, d.before a0 Z = true) : ∀ d ∈ wordsLen, d.before args s = true := fun d hd => by
  have q := hw d hd
  have t : ∀ d ∈ wordsLen, d = .arrayClass .byte ∨ (d.onTables && d.keepsFace) = true := by decide +kernel
  rcases t d hd with rfl | t
  · exact RoadKit.mvA hZ q
  · exact RoadKit.mv hZ q t
/-- the bytes of the chars cs, low before high -/
def wideBytes : List Int32 → List Value
  | [] => []
  | c :: cs => .int (lo8 c) :: .int (hi8 c) :: wideBytes cs
theorem wide_lo (d : Value) : ∀ (cs : List Int32) (j : Nat), j < cs.length → (wideBytes cs).getD (2 * j) d = .int (lo8 (cs.getD j 0))
  | [], j, h => absurd h (Nat.not_lt_zero j)
  | c :: cs, 0, _ => rfl
  | c :: cs, j + 1, h => by
    have q := wide_lo d cs j (by simpa using h)
    rw [show 2 * (j + 1) = 2 * j + 1 + 1 from by omega]
    simpa [wideBytes] using q
theorem wide_hi (d : Value) : ∀ (cs : List Int32) (j : Nat), j < cs.length → (wideBytes cs).getD (2 * j + 1) d = .int (hi8 (cs.getD j 0))
  | [], j, h => absurd h (Nat.not_lt_zero j)
  | c :: cs, 0, _ => rfl
  | c :: cs, j + 1, h => by
    have q := wide_hi d cs j (by simpa using h)
    rw [show 2 * (j + 1) + 1 = 2 * j + 1 + 1 + 1 from by omega]
    simpa [wideBytes] using q
theorem low_at (d : Value) (cs : List Int32) (j : Nat) (h : j < cs.length) : (cs.map fun c => Value.int (lo8 c)).getD j d = .int (lo8 (cs.getD j 0)) := by
  simp [List.getD_eq_getElem?_getD, h]
/-- an array of N2 bytes vs codes the chars cs by the coder cd -/
def CodA (cs : List Int32) (cd N2 : Int32) (vs : List Value) : Prop := (cd = 0 ∧ N2 = Int32.ofNat cs.length ∧ vs = (cs.map fun c => Value.int (lo8 c)) ∧ ∀ c ∈ cs, ¬ 255 < c) ∨ (cd = 1 ∧ N2 = Int32.ofNat (2 * cs.length) ∧ vs = wideBytes cs ∧ ∃ c ∈ cs, 255 < c)
theorem CodA.cod {cs : List Int32} {cd N2 : Int32} {vs : List Value} {V : Cell} (h : CodA cs cd N2 vs) (hn : 2 * cs.length < 2 ^ 31) (hs : V.slots.size = N2.toNatClampNeg) (hv : RoadKit.Has V vs (.int 0)) : Cod cd cs.length (fun j => cs.getD j 0) V := by
  rcases h with ⟨rfl, rfl, rfl, h⟩ | ⟨rfl, rfl, rfl, c, hc, hw⟩
  · rw [n32 (by omega)] at hs
    exact Or.inl ⟨rfl, hs, fun j hj => ⟨by rw [hv j (by omega), low_at _ _ _ hj], by
      have e : cs.getD j 0 = cs[j] := by simp [List.getD_eq_getElem?_getD, hj]
      show ¬ 255 < cs.getD j 0
      rw [e]; exact h _ (List.getElem_mem _)⟩⟩
  · rw [n32 (by omega)] at hs
    obtain ⟨j, hj, rfl⟩ := List.getElem_of_mem hc
    exact Or.inr ⟨rfl, hs, fun j hj => ⟨by rw [hv _ (by omega), wide_lo _ _ _ hj], by rw [hv _ (by omega), wide_hi _ _ _ hj]⟩, j, hj, by
      have e : cs.getD j 0 = cs[j] := by simp [List.getD_eq_getElem?_getD, hj]
      show 255 < cs.getD j 0
      rw [e]; exact hw⟩
/-- an object of exactly java/lang/String, its two fields found: as the laws ask it -/
theorem strObj {Z U : State} {a0 : Array Value} {kI : Nat} (wi : (Jvm.Cond.instantiable ST kI).before a0 Z = true) (al : Z.vm.Alike U.vm) {x : Addr} {v0 c0 : Value} (E : RoadKit.Exa Z U.heap x ST) (V : RoadKit.Fld Z U.heap x ST "value" "[B" v0) (C : RoadKit.Fld Z U.heap x ST "coder" "B" c0) :
    ∃ (D : Cell) (fV fC : Field), Blank ST x D U ∧ Found ST "value" "[B" fV U ∧ Found ST "coder" "B" fC U ∧ D.slots[fV.slot]? = some v0 ∧ D.slots[fC.slot]? = some c0 ∧ RoadKit.slotOf Z ST "value" "[B" = fV.slot ∧ RoadKit.slotOf Z ST "coder" "B" = fC.slot := by
  obtain ⟨D, cfV, kV, iV, fV, hD, gV, stV, knV, obV, asV, slV⟩ := V
  obtain ⟨D', cfC, kC, iC, fC, hD', gC, stC, -, -, asC, slC⟩ := C
  cases hD.symm.trans hD'
  obtain ⟨D2, kD, e1, e2, e3, e4, e5⟩ := E
  cases hD.symm.trans e1
  obtain ⟨c2, k2, i1, i2, i3, -⟩ := Cond.instantiable_spec wi
  cases e2.symm.trans i1
  cases e3.symm.trans i2
  obtain ⟨kU, u1, u2⟩ := al.2.2 _ _ e3
  exact ⟨D, fV, fC, ⟨hD, ⟨knV, fun q hq => by rw [hq] at obV; cases obV⟩, by rw [al.findClass]; exact e2, kU, u1, by rw [u2]; exact i3, by rw [u2]; exact e5 i3⟩, ⟨SBG.found_only al ⟨cfV, kV, iV, gV⟩, stV⟩, ⟨SBG.found_only al ⟨cfC, kC, iC, gC⟩, stC⟩, slV, slC, by simp [RoadKit.slotOf, gV], by simp [RoadKit.slotOf, gC]⟩
theorem sta_is {Z U : State} (al : Z.vm.Alike U.vm) {C n d : String} {v : Value} (S : RoadKit.Sta Z U.heap C n d v) : StaticIs U C n d v := by
  obtain ⟨cfS, iS, kS, fS, st, cS, t1, t2, t3, t4, t5, t6, t7⟩ := S
  exact StaticIs.there (s := { Z with heap := U.heap }) ⟨cfS, iS, kS, fS, st, cS, t1, t2, t3, t4, t5, (fun q => by rw [q] at t6; cases t6), t7⟩ al rfl
/-- **length() OF SUCH A STRING** -/
theorem lenW {p : Program} {l : Launch} {e : Env} {R : Room} {s : State} {args : Array Value} {below : List Frame} {len W : Nat} {Z : State} {a0 : Array Value} {h : Heap} (hZ : Z.Warmed39 s.vm) (hw : ∀ d ∈ wordsLen, d.before a0 Z = true) {kI : Nat} (wi : (Jvm.Cond.instantiable ST kI).before a0 Z = true)
    {x t : Addr} {kb : ClassId} {cs : List Int32} {cd N2 z : Int32} {vs : List Value} (E : RoadKit.Exa Z h x ST) (V : RoadKit.Fld Z h x ST "value" "[B" (.ref t)) (C : RoadKit.Fld Z h x ST "coder" "B" (.int cd)) (K : RoadKit.Arv Z h t kb .byte N2 vs (.int 0)) (hc : CodA cs cd N2 vs) (hb : ∀ c ∈ cs, ¬ c < 0 ∧ ¬ (65535 : Int32) < c)
    (S : RoadKit.Sta Z h ST "COMPACT_STRINGS" "Z" (.int z)) (hz : ¬ z = 0) (l2 : cs.length ≤ 4000) (hfr : 2 ≤ R.frames) (hlo : W + 25 ≤ R.locals) :
    Back l R p e below s args (⟨"java/lang/String", "length", "()I"⟩ : MethodName) len W (fun P a => a = #[.ref x] ∧ P.U.heap = h ∧ P.cells + 0 ≤ R.cells ∧ P.slots + 0 ≤ R.slots)
      (fun P _ v B => ∃ L, (v = some (.int (Int32.ofNat cs.length)) ∧ L = [] ∧ B.U.heap = h) ∧ B.locs = P.locs ++ L ∧ B.cells = P.cells + 0 ∧ B.slots = P.slots + 0) := by
  obtain ⟨A, K1, K2, K3, K4, K5, K6⟩ := K
  have hcod := hc.cod (by omega) K3 K5
  intro m meth c P g ig mk a X hg hsize hdg hW hn hp'
  obtain ⟨rfl, rfl, r1, r2⟩ := hp'
  have al : Z.vm.Alike P.U.vm := hZ.alike.trans X.warmed.alike
  obtain ⟨D, fV, fC, hB, F1, F2, g1, g2, -, -⟩ := strObj wi al E V C
  have hx : Txt x t A cd cs.length (fun j => cs.getD j 0) P.U := ⟨⟨_, hB.2.2.1, D, hB.1, rfl, by cases q : D.vm <;> first | rfl | exact absurd q (hB.2.1.2 _)⟩, Has.of hB F1 g1, Has.of hB F2 g2, ⟨K1.1, State.isArrayOf_alike al K1.2.1, K1.2.2, by rcases hcod with ⟨-, q, -⟩ | ⟨-, q, -⟩ <;> omega⟩, hcod, fun j hj => by
    have e : cs.getD j 0 = cs[j] := by simp [List.getD_eq_getElem?_getD, hj]
    show ¬ cs.getD j 0 < 0 ∧ ¬ 65535 < cs.getD j 0
    rw [e]; exact hb _ (List.getElem_mem _)⟩
  obtain ⟨v, B, X', ⟨⟨hv, hh⟩, hl, hk, hs⟩, st⟩ := Len.pays x t A cd cs.length (fun j => cs.getD j 0) z (tabLen_of (movedLen hZ hw)) hfr hlo m meth c P g ig mk _ X hg hsize hdg hW hn ⟨r1, r2, rfl, hx, sta_is al S, hz⟩
  exact ⟨v, B, X', ⟨[], ⟨hv, rfl, hh⟩, hl, hk, hs⟩, st⟩
end StrChars.Road
namespace StrChars
open Jvm Sem ClassFile Op Lib Jvm.Stand Jvm.Free.XT Jvm.Free.ALB Jvm.Free.JM Jvm.Free
open Jvm.Lib.Cold (StaticIs)
theorem lo8_inj {x y : Int32} (h0 : ¬ x < 0) (h1 : ¬ 255 < x) (k0 : ¬ y < 0) (k1 : ¬ 255 < y) (h : lo8 x = lo8 y) : x = y := by
  rw [← lo8_mask h0 h1, ← lo8_mask k0 k1, h]
end StrChars
namespace StrChars.Road
open Jvm Sem ClassFile Op Lib Jvm.Stand Jvm.Free Jvm.Free.XT
open Jvm.Lib.Cold (StaticIs)
/-- the road's facts of a String, as the laws ask it -/
theorem txt_of {Z U : State} {a0 : Array Value} {kI : Nat} (wi : (Jvm.Cond.instantiable ST kI).before a0 Z = true) (al : Z.vm.Alike U.vm) {x t : Addr} {kb : ClassId} {cs : List Int32} {cd N2 : Int32} {vs : List Value} (E : RoadKit.Exa Z U.heap x ST) (V : RoadKit.Fld Z U.heap x ST "value" "[B" (.ref t)) (C : RoadKit.Fld Z U.heap x ST "coder" "B" (.int cd)) (K : RoadKit.Arv Z U.heap t kb .byte N2 vs (.int 0)) (hc : CodA cs cd N2 vs) (hb : ∀ c ∈ cs, ¬ c < 0 ∧ ¬ (65535 : Int32) < c) (l2 : cs.length ≤ 4000) :
    ∃ A, Txt x t A cd cs.length (fun j => cs.getD j 0) U := by
  obtain ⟨A, K1, K2, K3, K4, K5, K6⟩ := K
  have hcod := hc.cod (by omega) K3 K5
  obtain ⟨D, fV, fC, hB, F1, F2, g1, g2, -, -⟩ := strObj wi al E V C
  exact ⟨A, ⟨_, hB.2.2.1, D, hB.1, rfl, by cases q : D.vm <;> first | rfl | exact absurd q (hB.2.1.2 _)⟩, Has.of hB F1 g1, Has.of hB F2 g2, ⟨K1.1, State.isArrayOf_alike al K1.2.1, K1.2.2, by rcases hcod with ⟨-, q, -⟩ | ⟨-, q, -⟩ <;> omega⟩, hcod, fun j hj => by
    have e : cs.getD j 0 = cs[j] := by simp [List.getD_eq_getElem?_getD, hj]
    show ¬ cs.getD j 0 < 0 ∧ ¬ 65535 < cs.getD j 0
    rw [e]; exact hb _ (List.getElem_mem _)⟩
end StrChars.Road
namespace StrChars
open Jvm Sem ClassFile Op Lib Jvm.Stand Jvm.Free.XT Jvm.Free.ALB Jvm.Free.JM Jvm.Free
open Jvm.Lib.Cold (StaticIs)
namespace ChN
def yN : MethodName := ⟨"java/lang/String", "charAt", "(I)C"⟩
abbrev yB : ByteArray := jdk_42_method_56_code
theorem d0 : decode yB 0 = .ok (.aload_n 0, 1) := by decide +kernel
theorem d1 : decode yB 1 = .ok (.invokevirtual 492, 3) := by decide +kernel
theorem d4 : decode yB 4 = .ok (.ifCond (.eq) 12, 3) := by decide +kernel
theorem d7 : decode yB 7 = .ok (.aload_n 0, 1) := by decide +kernel
theorem d8 : decode yB 8 = .ok (.getfield 9, 3) := by decide +kernel
theorem d11 : decode yB 11 = .ok (.iload_n 1, 1) := by decide +kernel
theorem d12 : decode yB 12 = .ok (.invokestatic 495, 3) := by decide +kernel
theorem d15 : decode yB 15 = .ok (.ireturn, 1) := by decide +kernel
def site : List Cond := [.fieldLink "java/lang/String" 9 "java/lang/String" "value" "[B", IsL.tab, LChA.tab] ++ virtW "java/lang/String" 492 "java/lang/String" IsL.yN IsL.yN ++ staticW "java/lang/String" 495 LChA.yN
def tab : Cond := tabOf yN yB 2 (some .char) site
def P (x t : Addr) (V : Cell) (n : Nat) (f : Nat → Int32) (z : Int32) (fm : Value) (i : Nat) (args : Array Value) (s : State) : Prop := args = #[.ref x, .int (Int32.ofNat i)] ∧ Txt x t V 0 n f s ∧ i < n ∧ StaticIs s "java/lang/String" "COMPACT_STRINGS" "Z" (.int z) ∧ ¬ z = 0 ∧ StaticIs s "jdk/internal/util/Preconditions" "SIOOBE_FORMATTER" "Ljava/util/function/BiFunction;" fm ∧ fm.isRef = true
def E (f : Nat → Int32) (i : Nat) (r : Option Value) (s u : State) : Prop := XT.PureE (some (.int (f i))) r s u
/-- charAt(i) of a Latin-1 String of n chars, i < n: f i -/
theorem law (l : Launch) (x t : Addr) (V : Cell) (n : Nat) (f : Nat → Int32) (z : Int32) (fm : Value) (i : Nat) : Law l yN 2 1 3 40 yB 2 (some .char) site (P x t V n f z fm i) (E f i) [] 0 0 := by
  refine Law.of_walk (plainFor_of_name (by decide +kernel)) (by decide +kernel) (by decide +kernel) (by decide) (fun _ _ h => by rw [h.1]; rfl) (fun _ U U' hal hh h => ⟨h.1, h.2.1.mv hal hh, h.2.2.1, h.2.2.2.1.there hal hh, h.2.2.2.2.1, h.2.2.2.2.2.1.there hal hh, h.2.2.2.2.2.2⟩) (fun r U U' V V' h1 hal h2 h => XT.PureE.mv r U U' V V' h1 hal h2 h) ?_
  intro p e s m args below meth c s₁ X0 hexec hbytes hml hret hlk hnm hown hh0 W hP
  obtain ⟨rfl, hx, hi, s1, hz, s3, rf⟩ := hP
  have v31 := hx.2.2.2.1.2.2.2
  have hr := hx.2.2.2.2.2 i hi
  have hx0 := hx.mv X0.warmed.alike hh0
  have c1 : Steps p.tables e below (s₁.setTop (entryFrame m #[.ref x, .int (Int32.ofNat i)] 2)) (s₁.setTop (mkF m 1 #[.val (.ref x), .val (.int (Int32.ofNat i))] [.ref x])) := Steps.trans (entry rfl) (by
    show Steps p.tables e below (s₁.setTop (mkF m 0 #[.val (.ref x), .val (.int (Int32.ofNat i))] [])) _
    refine XS.aloadN X0.here hexec rfl (hb hbytes d0) rfl rfl ?_
    exact Steps.refl _)
  obtain ⟨v2, T2, X2, E2, g2⟩ := X0.callV hexec (IsL.law l x 0 z) hown (wks W (virtW "java/lang/String" 492 "java/lang/String" IsL.yN IsL.yN)) rfl (by decide) (wk W IsL.tab) (W := 0) (Nat.le_of_ble_eq_true rfl) (Nat.le_of_ble_eq_true rfl) (Nat.le_refl _) (Nat.le_refl _) (hx0.1.fc X0.warmed.alike) hx0.1.is (g := (mkF m 1 #[.val (.ref x), .val (.int (Int32.ofNat i))] [.ref x])) rfl (by rw [hml]; rfl) c1 (argsL := []) (rest := []) rfl rfl (by show 2 * 0 + 0 ≤ _; decide) (hb hbytes d1) (⟨rfl, hx0.2.2.1, hx.2.2.2.2.1.cd, s1.there X0.warmed.alike hh0, hz⟩)
  obtain ⟨rfl, q2⟩ := E2
  have hh2 := q2.trans hh0
  have hx2 := hx.mv X2.warmed.alike hh2
  obtain ⟨-, k1, k2⟩ | ⟨k0, -⟩ := hx.2.2.2.2.1
  · have c3 : Steps p.tables e below (s₁.setTop (entryFrame m #[.ref x, .int (Int32.ofNat i)] 2)) (T2.setTop (mkF m 8 #[.val (.ref x), .val (.int (Int32.ofNat i))] [.ref x])) := Steps.trans g2 (by
      refine XS.ifNo X2.here hexec rfl (hb hbytes d4) rfl (i0_eq_f (by decide)) ?_
      refine XS.aloadN X2.here hexec rfl (hb hbytes d7) rfl rfl ?_
      exact Steps.refl _)
    obtain ⟨T4, X4, q4, st4⟩ := X2.hget hexec hown (wk W (.fieldLink "java/lang/String" 9 "java/lang/String" "value" "[B")) hx2.2.1 (g := (mkF m 8 #[.val (.ref x), .val (.int (Int32.ofNat i))] [.ref x])) rfl (rest := []) rfl (hb hbytes d8)
    have hh4 := q4.trans hh2
    have c5 : Steps p.tables e below (s₁.setTop (entryFrame m #[.ref x, .int (Int32.ofNat i)] 2)) (T4.setTop (mkF m 12 #[.val (.ref x), .val (.int (Int32.ofNat i))] [.int (Int32.ofNat i), .ref t])) := (c3.trans (st4 _ (Steps.refl _))).trans (by
      refine XS.iloadN X4.here hexec rfl (hb hbytes d11) rfl ?_
      exact Steps.refl _)
    obtain ⟨v6, T6, X6, E6, g6⟩ := X4.callS hexec (LChA.law l t V i (lo8 (f i)) fm) hown (wks W (staticW "java/lang/String" 495 LChA.yN)) (wk W LChA.tab) (W := 0) (Nat.le_of_ble_eq_true rfl) (Nat.le_of_ble_eq_true rfl) (Nat.le_refl _) (Nat.le_refl _) (g := (mkF m 12 #[.val (.ref x), .val (.int (Int32.ofNat i))] [.int (Int32.ofNat i), .ref t])) rfl (by rw [hml]; rfl) c5 (argsL := [.ref t, .int (Int32.ofNat i)]) (rest := []) rfl rfl (by show 2 * 0 + 0 ≤ _; decide) (hb hbytes d12) (⟨rfl, hx.2.2.2.1.mv X4.warmed.alike hh4, (k2 i hi).1, s3.there X4.warmed.alike hh4, rf⟩)
    obtain ⟨rfl, q6⟩ := E6
    rw [chr8_lo8 hr.1 (k2 i hi).2] at g6
    exact ⟨T6, some (.int (f i)), _, _, _, X6, rfl, rfl, rfl, (fun h => by cases h), ⟨rfl, q6.trans hh4⟩, fun fs hl => Steps.trans g6 (X6.ireturnOut hexec hret (narrow_ch hr.1 hr.2) (Or.inr (Or.inr (Or.inr (Or.inl rfl)))) (hb hbytes d15) hl)⟩
  · exact absurd k0 (by decide)
theorem pays {l : Launch} {R : Room} {p : Program} {e : Env} {below : List Frame} {s : State} {sargs : Array Value} {len W : Nat} (x t : Addr) (V : Cell) (n : Nat) (f : Nat → Int32) (z : Int32) (fm : Value) (i : Nat) (htab : tab.before sargs s = true) (hfr : 4 ≤ R.frames) (hlo : W + 53 ≤ R.locals) :
    Back l R p e below s sargs yN len W (fun A₁ a₁ => A₁.cells + 0 ≤ R.cells ∧ A₁.slots + 0 ≤ R.slots ∧ P x t V n f z fm i a₁ A₁.U) (fun A₁ _ v₁ B₁ => E f i v₁ A₁.U B₁.U ∧ B₁.locs = A₁.locs ++ [] ∧ B₁.cells = A₁.cells + 0 ∧ B₁.slots = A₁.slots + 0) :=
  (law l x t V n f z fm i).pays htab hfr (by omega)
end ChN
end StrChars
namespace StrChars.Road
open Jvm Sem ClassFile Op Lib Jvm.Stand Jvm.Free Jvm.Free.XT
open Jvm.Lib.Cold (StaticIs)
/-- the words of String.charAt(int), the Latin-1 road alone -/
abbrev wordsChN : List Jvm.Cond := [.code ChN.yN ChN.yB 2 (some .char), .initialized ST, .fieldLink ST 9 ST "value" "[B", .fieldLink ST 38 ST "COMPACT_STRINGS" "Z", .fieldLink ST 15 ST "coder" "B", .code IsL.yN IsL.yB 1 (some .boolean), .methodLink ST 492 IsL.yN, .declares IsL.yN, .selects ST IsL.yN IsL.yN, .instanceMethod IsL.yN,
  .methodLink ST 495 LChA.yN, .static LChA.yN, .code LChA.yN LChA.yB 2 (some .char), .initialized "java/lang/StringLatin1", .methodLink "java/lang/StringLatin1" 9 JO.Str_checkIndex.yN, .static JO.Str_checkIndex.yN, .code JO.Str_checkIndex.yN JO.Str_checkIndex.yB 2 none,
  .fieldLink ST 1053 "jdk/internal/util/Preconditions" "SIOOBE_FORMATTER" "Ljava/util/function/BiFunction;", .methodLink ST 1059 JC.PreCheck.yN, .static JC.PreCheck.yN, .code JC.PreCheck.yN JC.PreCheck.yB 3 (some .int), .initialized "jdk/internal/util/Preconditions"]
theorem tabChN_of {a : Array Value} {s : State} (h : ∀ w ∈ wordsChN, w.before a s = true) : ChN.tab.before a s = true := by
  have hp : JC.PreCheck.tab.before a s = true := unparts (wk h (.code JC.PreCheck.yN JC.PreCheck.yB 3 (some .int))) (wks h (.initialized JC.PreCheck.yN.cls :: JC.PreCheck.site))
  have qk := consq hp h
  have hk : JO.Str_checkIndex.tab.before a s = true := unparts (wk qk (.code JO.Str_checkIndex.yN JO.Str_checkIndex.yB 2 none)) (wks qk (.initialized JO.Str_checkIndex.yN.cls :: JO.Str_checkIndex.site))
  have ql := consq hk h
  have hl : LChA.tab.before a s = true := unparts (wk ql (.code LChA.yN LChA.yB 2 (some .char))) (wks ql (.initialized LChA.yN.cls :: LChA.site))
  have hi : IsL.tab.before a s = true := unparts (wk h (.code IsL.yN IsL.yB 1 (some .boolean))) (wks h (.initialized IsL.yN.cls :: IsL.site))
  have q := consq hi (consq hl h)
  exact unparts (wk q (.code ChN.yN ChN.yB 2 (some .char))) (wks q (.initialized ChN.yN.cls :: ChN.site))
theorem movedChN {Z s : State} {a0 args : Array Value} (hZ : Z.Warmed39 s.vm) (hw : ∀ d ∈ wordsChN, d.before a0 Z = true) : ∀ d ∈ wordsChN, d.before args s = true := fun d hd => by
  have t : ∀ d ∈ wordsChN, (d.onTables && d.keepsFace) = true := by decide +kernel
  exact RoadKit.mv hZ (hw d hd) (t d hd)
/-- **charAt(i) OF A LATIN-1 STRING**, i < n: the char -/
theorem chN {p : Program} {l : Launch} {e : Env} {R : Room} {s : State} {args : Array Value} {below : List Frame} {len W : Nat} {Z : State} {a0 : Array Value} {h : Heap} (hZ : Z.Warmed39 s.vm) (hw : ∀ d ∈ wordsChN, d.before a0 Z = true) {kI : Nat} (wi : (Jvm.Cond.instantiable ST kI).before a0 Z = true)
    {x t : Addr} {kb : ClassId} {cs : List Int32} {N2 z : Int32} {vs : List Value} {fm : Value} {i : Nat} {j : Int32} (E : RoadKit.Exa Z h x ST) (V : RoadKit.Fld Z h x ST "value" "[B" (.ref t)) (C : RoadKit.Fld Z h x ST "coder" "B" (.int 0)) (K : RoadKit.Arv Z h t kb .byte N2 vs (.int 0)) (hc : CodA cs 0 N2 vs) (hb : ∀ c ∈ cs, ¬ c < 0 ∧ ¬ (65535 : Int32) < c)
    (S : RoadKit.Sta Z h ST "COMPACT_STRINGS" "Z" (.int z)) (hz : ¬ z = 0) (F : RoadKit.Sta Z h "jdk/internal/util/Preconditions" "SIOOBE_FORMATTER" "Ljava/util/function/BiFunction;" fm) (rf : fm.isRef = true) (l2 : cs.length ≤ 4000) (hi : i < cs.length) (hj : j = Int32.ofNat i) (hfr : 4 ≤ R.frames) (hlo : W + 53 ≤ R.locals) :
    Back l R p e below s args (⟨"java/lang/String", "charAt", "(I)C"⟩ : MethodName) len W (fun P a => a = #[.ref x, .int j] ∧ P.U.heap = h ∧ P.cells + 0 ≤ R.cells ∧ P.slots + 0 ≤ R.slots)
      (fun P _ v B => ∃ L, (v = some (.int (cs.getD i 0)) ∧ L = [] ∧ B.U.heap = h) ∧ B.locs = P.locs ++ L ∧ B.cells = P.cells + 0 ∧ B.slots = P.slots + 0) := by
  subst hj
  intro m meth c P g ig mk a X hg hsize hdg hW hn hp'
  obtain ⟨rfl, rfl, r1, r2⟩ := hp'
  have al : Z.vm.Alike P.U.vm := hZ.alike.trans X.warmed.alike
  obtain ⟨A, hx⟩ := txt_of wi al E V C K hc hb l2
  obtain ⟨v, B, X', ⟨⟨hv, hh⟩, hl, hk, hs⟩, st⟩ := ChN.pays x t A cs.length (fun j => cs.getD j 0) z fm i (tabChN_of (movedChN hZ hw)) hfr hlo m meth c P g ig mk _ X hg hsize hdg hW hn ⟨r1, r2, rfl, hx, hi, sta_is al S, hz, sta_is al F, rf⟩
  exact ⟨v, B, X', ⟨[], ⟨hv, rfl, hh⟩, hl, hk, hs⟩, st⟩
/-- what backV says of its String, as the contracts of this text ask it: cs's low bytes, coder 0 -/
theorem codOf {cs : List Int32} {n : Nat} (hn : cs.length = n) (hb : ∀ c ∈ cs, ¬ 255 < c) : CodA cs 0 (Int32.ofNat n) ((cs.map lo8).map Value.int) := Or.inl ⟨rfl, by rw [hn], by simp [List.map_map, Function.comp_def], hb⟩
end StrChars.Road
end Jvm.Pilot.@@N@@
namespace Jvm.Pilot.@@N@@
open Jvm Jvm.ClassFile Sem Op Lib Jvm.Free Jvm.Stand Jvm.LawKit Jvm.RoadKit Bundle Jvm.Pilot.@@N@@.Jvm.D
/-- the run from S on comes to an end of which G holds -/
def Go (p : Program) (e : Env) (below : List Frame) (G : Outcome → State → Prop) (S : State) : Prop := ∃ s₂ o, Steps p.tables e below S s₂ ∧ s₂.status = .running ∧ Ended s₂ below o ∧ G o s₂
theorem Go.mono {p : Program} {e : Env} {below : List Frame} {G : Outcome → State → Prop} {S S' : State} (st : ∀ t, Steps p.tables e below S' t → Steps p.tables e below S t) (h : Go p e below G S') : Go p e below G S := by
  obtain ⟨a, b, c, d⟩ := h; exact ⟨a, b, st _ c, d⟩
/-- where a walk stands: the method's own facts, the heap, and an invariant I over the tables' state and the heap -/
def Wk (p : Program) (l : Launch) (e : Env) (R : Room) (m : MethodId) (args : Array Value) (below : List Frame) (meth : Method) (c : Code) (own : String) (bytes : ByteArray) (maxL : Nat) (Z : State) (I : State → Heap → Prop) (s' T : State) (locs : List Loc) (cells slots : Nat) (h : Heap) : Prop :=
  Stand p l e R s' m args below meth c T locs cells slots ∧ T.heap = h ∧ Z.Warmed39 s'.vm ∧ s'.vm.findClass own = some m.cls ∧ p.tables.exec = Jvm.exec ∧ c.code = bytes ∧ c.maxLocals = maxL ∧ I s' h
section Walk
variable {p : Program} {l : Launch} {e : Env} {R : Room} {m : MethodId} {args : Array Value} {below : List Frame} {meth : Method} {c : Code} {own : String} {bytes : ByteArray} {maxL : Nat} {Z : State} {I : State → Heap → Prop} {s' T : State} {locs : List Loc} {cells slots : Nat} {h : Heap} {G : Outcome → State → Prop} {pc : Nat} {Ls : Array Slot} {S : List Value} {a0 : Array Value}
theorem Wk.st (D : Wk p l e R m args below meth c own bytes maxL Z I s' T locs cells slots h) : Stand p l e R s' m args below meth c T locs cells slots := D.1
theorem Wk.eq (D : Wk p l e R m args below meth c own bytes maxL Z I s' T locs cells slots h) : T.heap = h := D.2.1
theorem Wk.wm (D : Wk p l e R m args below meth c own bytes maxL Z I s' T locs cells slots h) : Z.Warmed39 s'.vm := D.2.2.1
theorem Wk.ow (D : Wk p l e R m args below meth c own bytes maxL Z I s' T locs cells slots h) : s'.vm.findClass own = some m.cls := D.2.2.2.1
theorem Wk.ex (D : Wk p l e R m args below meth c own bytes maxL Z I s' T locs cells slots h) : p.tables.exec = Jvm.exec := D.2.2.2.2.1
theorem Wk.cb (D : Wk p l e R m args below meth c own bytes maxL Z I s' T locs cells slots h) : c.code = bytes := D.2.2.2.2.2.1
theorem Wk.ml (D : Wk p l e R m args below meth c own bytes maxL Z I s' T locs cells slots h) : c.maxLocals = maxL := D.2.2.2.2.2.2.1
theorem Wk.iv (D : Wk p l e R m args below meth c own bytes maxL Z I s' T locs cells slots h) : I s' h := D.2.2.2.2.2.2.2
theorem Wk.more (D : Wk p l e R m args below meth c own bytes maxL Z I s' T locs cells slots h) {k n : Nat} (hc : cells ≤ k) (hs : slots ≤ n) : Wk p l e R m args below meth c own bytes maxL Z I s' T locs k n h := ⟨D.1.more hc hs, D.2⟩
theorem Wk.mk' {T' : State} {locs' : List Loc} {cells' slots' : Nat} {h' : Heap} (D : Wk p l e R m args below meth c own bytes maxL Z I s' T locs cells slots h) (X : Stand p l e R s' m args below meth c T' locs' cells' slots') (q : T'.heap = h') (i : I s' h') : Wk p l e R m args below meth c own bytes maxL Z I s' T' locs' cells' slots' h' := ⟨X, q, D.wm, D.ow, D.ex, D.cb, D.ml, i⟩
theorem g_aloadN (D : Wk p l e R m args below meth c own bytes maxL Z I s' T locs cells slots h) (pc' : Nat) {k : Fin 4} {v : Value} (hd : decode bytes pc = .ok (.aload_n k, 1)) (hl : Ls[k.val]? = some (.val v)) (hv : v.isRef = true) (hp : pc + 1 = pc') (hr : Go p e below G (T.setTop (mkF m pc' Ls (v :: S)))) : Go p e below G (T.setTop (mkF m pc Ls S)) := by
  subst hp; exact Go.mono (fun t k => XS.aloadN D.st.here D.ex rfl (hb D.cb hd) hl hv k) hr
theorem g_aload (D : Wk p l e R m args below meth c own bytes maxL Z I s' T locs cells slots h) (pc' : Nat) {k : Nat} {v : Value} (hd : decode bytes pc = .ok (.aload k, 2)) (hl : Ls[k]? = some (.val v)) (hv : v.isRef = true) (hp : pc + 2 = pc') (hr : Go p e below G (T.setTop (mkF m pc' Ls (v :: S)))) : Go p e below G (T.setTop (mkF m pc Ls S)) := by
  subst hp; exact Go.mono (fun t k => XS.aload D.st.here D.ex rfl (hb D.cb hd) hl hv k) hr
theorem g_iloadN (D : Wk p l e R m args below meth c own bytes maxL Z I s' T locs cells slots h) (pc' : Nat) {k : Fin 4} {v : Int32} (hd : decode bytes pc = .ok (.iload_n k, 1)) (hl : Ls[k.val]? = some (.val (.int v))) (hp : pc + 1 = pc') (hr : Go p e below G (T.setTop (mkF m pc' Ls (.int v :: S)))) : Go p e below G (T.setTop (mkF m pc Ls S)) := by
  subst hp; exact Go.mono (fun t k => XS.iloadN D.st.here D.ex rfl (hb D.cb hd) hl k) hr
theorem g_iload (D : Wk p l e R m args below meth c own bytes maxL Z I s' T locs cells slots h) (pc' : Nat) {k : Nat} {v : Int32} (hd : decode bytes pc = .ok (.iload k, 2)) (hl : Ls[k]? = some (.val (.int v))) (hp : pc + 2 = pc') (hr : Go p e below G (T.setTop (mkF m pc' Ls (.int v :: S)))) : Go p e below G (T.setTop (mkF m pc Ls S)) := by
  subst hp; exact Go.mono (fun t k => XS.iload D.st.here D.ex rfl (hb D.cb hd) hl k) hr
theorem g_lloadN (D : Wk p l e R m args below meth c own bytes maxL Z I s' T locs cells slots h) (pc' : Nat) {k : Fin 4} {v : Int64} (hd : decode bytes pc = .ok (.lload_n k, 1)) (hl : Ls[k.val]? = some (.val (.long v))) (hp : pc + 1 = pc') (hr : Go p e below G (T.setTop (mkF m pc' Ls (.long v :: S)))) : Go p e below G (T.setTop (mkF m pc Ls S)) := by
  subst hp; exact Go.mono (fun t k => XS.lloadN D.st.here D.ex rfl (hb D.cb hd) hl k) hr
theorem g_istoreN (D : Wk p l e R m args below meth c own bytes maxL Z I s' T locs cells slots h) (pc' : Nat) {k : Fin 4} {x : Int32} (l' : Array Slot) (hd : decode bytes pc = .ok (.istore_n k, 1)) (hl : storeLocals Ls k.val (.int x) = some l') (hp : pc + 1 = pc') (hr : Go p e below G (T.setTop (mkF m pc' l' S))) : Go p e below G (T.setTop (mkF m pc Ls (.int x :: S))) := by
  subst hp; exact Go.mono (fun t k => XS.istoreN D.st.here D.ex rfl (hb D.cb hd) rfl hl k) hr
theorem g_istore (D : Wk p l e R m args below meth c own bytes maxL Z I s' T locs cells slots h) (pc' : Nat) {k : Nat} {x : Int32} (l' : Array Slot) (hd : decode bytes pc = .ok (.istore k, 2)) (hl : storeLocals Ls k (.int x) = some l') (hp : pc + 2 = pc') (hr : Go p e below G (T.setTop (mkF m pc' l' S))) : Go p e below G (T.setTop (mkF m pc Ls (.int x :: S))) := by
  subst hp; exact Go.mono (fun t k => XS.istore D.st.here D.ex rfl (hb D.cb hd) rfl hl k) hr
theorem g_astoreN (D : Wk p l e R m args below meth c own bytes maxL Z I s' T locs cells slots h) (pc' : Nat) {k : Fin 4} {x : Value} (l' : Array Slot) (hd : decode bytes pc = .ok (.astore_n k, 1)) (hv : x.isRef = true) (hl : storeLocals Ls k.val x = some l') (hp : pc + 1 = pc') (hr : Go p e below G (T.setTop (mkF m pc' l' S))) : Go p e below G (T.setTop (mkF m pc Ls (x :: S))) := by
  subst hp; exact Go.mono (fun t k => XS.astoreN D.st.here D.ex rfl (hb D.cb hd) rfl hv hl k) hr
theorem g_astore (D : Wk p l e R m args below meth c own bytes maxL Z I s' T locs cells slots h) (pc' : Nat) {k : Nat} {x : Value} (l' : Array Slot) (hd : decode bytes pc = .ok (.astore k, 2)) (hv : x.isRef = true) (hl : storeLocals Ls k x = some l') (hp : pc + 2 = pc') (hr : Go p e below G (T.setTop (mkF m pc' l' S))) : Go p e below G (T.setTop (mkF m pc Ls (x :: S))) := by
  subst hp; exact Go.mono (fun t k => XS.astore D.st.here D.ex rfl (hb D.cb hd) rfl hv hl k) hr
theorem g_iconst (D : Wk p l e R m args below meth c own bytes maxL Z I s' T locs cells slots h) (pc' : Nat) {i : Int} (v : Int32) (hd : decode bytes pc = .ok (.iconst i, 1)) (hv : Int32.ofInt i = v) (hp : pc + 1 = pc') (hr : Go p e below G (T.setTop (mkF m pc' Ls (.int v :: S)))) : Go p e below G (T.setTop (mkF m pc Ls S)) := by
  subst hp; subst hv; exact Go.mono (fun t k => XS.iconst D.st.here D.ex rfl (hb D.cb hd) k) hr
theorem g_bipush (D : Wk p l e R m args below meth c own bytes maxL Z I s' T locs cells slots h) (pc' : Nat) {i : Int} (v : Int32) (hd : decode bytes pc = .ok (.bipush i, 2)) (hv : (Int8.ofInt i).toInt32 = v) (hp : pc + 2 = pc') (hr : Go p e below G (T.setTop (mkF m pc' Ls (.int v :: S)))) : Go p e below G (T.setTop (mkF m pc Ls S)) := by
  subst hp; subst hv; exact Go.mono (fun t k => XS.bipush D.st.here D.ex rfl (hb D.cb hd) k) hr
theorem g_sipush (D : Wk p l e R m args below meth c own bytes maxL Z I s' T locs cells slots h) (pc' : Nat) {i : Int} (v : Int32) (hd : decode bytes pc = .ok (.sipush i, 3)) (hv : (Int16.ofInt i).toInt32 = v) (hp : pc + 3 = pc') (hr : Go p e below G (T.setTop (mkF m pc' Ls (.int v :: S)))) : Go p e below G (T.setTop (mkF m pc Ls S)) := by
  subst hp; subst hv; exact Go.mono (fun t k => XS.sipush D.st.here D.ex rfl (hb D.cb hd) k) hr
theorem g_aconst (D : Wk p l e R m args below meth c own bytes maxL Z I s' T locs cells slots h) (pc' : Nat)  (hd : decode bytes pc = .ok (.aconst_null, 1)) (hp : pc + 1 = pc') (hr : Go p e below G (T.setTop (mkF m pc' Ls (.null :: S)))) : Go p e below G (T.setTop (mkF m pc Ls S)) := by
  subst hp; exact Go.mono (fun t k => XS.aconstNull D.st.here D.ex rfl (hb D.cb hd)  k) hr
theorem g_iadd (D : Wk p l e R m args below meth c own bytes maxL Z I s' T locs cells slots h) (pc' : Nat) {x y : Int32} (hd : decode bytes pc = .ok (.iadd, 1)) (hp : pc + 1 = pc') (hr : Go p e below G (T.setTop (mkF m pc' Ls (.int (x + y) :: S)))) : Go p e below G (T.setTop (mkF m pc Ls (.int y :: .int x :: S))) := by
  subst hp; exact Go.mono (fun t k => XS.iadd D.st.here D.ex rfl (hb D.cb hd) rfl k) hr
theorem g_isub (D : Wk p l e R m args below meth c own bytes maxL Z I s' T locs cells slots h) (pc' : Nat) {x y : Int32} (hd : decode bytes pc = .ok (.isub, 1)) (hp : pc + 1 = pc') (hr : Go p e below G (T.setTop (mkF m pc' Ls (.int (x - y) :: S)))) : Go p e below G (T.setTop (mkF m pc Ls (.int y :: .int x :: S))) := by
  subst hp; exact Go.mono (fun t k => XS.isub D.st.here D.ex rfl (hb D.cb hd) rfl k) hr
theorem g_imul (D : Wk p l e R m args below meth c own bytes maxL Z I s' T locs cells slots h) (pc' : Nat) {x y : Int32} (hd : decode bytes pc = .ok (.imul, 1)) (hp : pc + 1 = pc') (hr : Go p e below G (T.setTop (mkF m pc' Ls (.int (x * y) :: S)))) : Go p e below G (T.setTop (mkF m pc Ls (.int y :: .int x :: S))) := by
  subst hp; exact Go.mono (fun t k => XS.imul D.st.here D.ex rfl (hb D.cb hd) rfl k) hr
theorem g_iand (D : Wk p l e R m args below meth c own bytes maxL Z I s' T locs cells slots h) (pc' : Nat) {x y : Int32} (hd : decode bytes pc = .ok (.iand, 1)) (hp : pc + 1 = pc') (hr : Go p e below G (T.setTop (mkF m pc' Ls (.int (x &&& y) :: S)))) : Go p e below G (T.setTop (mkF m pc Ls (.int y :: .int x :: S))) := by
  subst hp; exact Go.mono (fun t k => XS.iand D.st.here D.ex rfl (hb D.cb hd) rfl k) hr
theorem g_ishr (D : Wk p l e R m args below meth c own bytes maxL Z I s' T locs cells slots h) (pc' : Nat) {x y : Int32} (hd : decode bytes pc = .ok (.ishr, 1)) (hp : pc + 1 = pc') (hr : Go p e below G (T.setTop (mkF m pc' Ls (.int (x >>> (y &&& 31)) :: S)))) : Go p e below G (T.setTop (mkF m pc Ls (.int y :: .int x :: S))) := by
  subst hp; exact Go.mono (fun t k => XS.ishr D.st.here D.ex rfl (hb D.cb hd) rfl k) hr
theorem g_iushr (D : Wk p l e R m args below meth c own bytes maxL Z I s' T locs cells slots h) (pc' : Nat) {x y : Int32} (hd : decode bytes pc = .ok (.iushr, 1)) (hp : pc + 1 = pc') (hr : Go p e below G (T.setTop (mkF m pc' Ls (.int (XT.ushr x y) :: S)))) : Go p e below G (T.setTop (mkF m pc Ls (.int y :: .int x :: S))) := by
  subst hp; exact Go.mono (fun t k => XT.iushr D.st.here D.ex rfl (hb D.cb hd) rfl k) hr
theorem g_lsub (D : Wk p l e R m args below meth c own bytes maxL Z I s' T locs cells slots h) (pc' : Nat) {x y : Int64} (hd : decode bytes pc = .ok (.lsub, 1)) (hp : pc + 1 = pc') (hr : Go p e below G (T.setTop (mkF m pc' Ls (.long (x - y) :: S)))) : Go p e below G (T.setTop (mkF m pc Ls (.long y :: .long x :: S))) := by
  subst hp; exact Go.mono (fun t k => XS.lsub D.st.here D.ex rfl (hb D.cb hd) rfl k) hr
theorem g_land (D : Wk p l e R m args below meth c own bytes maxL Z I s' T locs cells slots h) (pc' : Nat) {x y : Int64} (hd : decode bytes pc = .ok (.land, 1)) (hp : pc + 1 = pc') (hr : Go p e below G (T.setTop (mkF m pc' Ls (.long (x &&& y) :: S)))) : Go p e below G (T.setTop (mkF m pc Ls (.long y :: .long x :: S))) := by
  subst hp; exact Go.mono (fun t k => XS.land D.st.here D.ex rfl (hb D.cb hd) rfl k) hr
theorem g_lushr (D : Wk p l e R m args below meth c own bytes maxL Z I s' T locs cells slots h) (pc' : Nat) {x : Int64} {y : Int32} (hd : decode bytes pc = .ok (.lushr, 1)) (hp : pc + 1 = pc') (hr : Go p e below G (T.setTop (mkF m pc' Ls (.long (XT.ushrL x y) :: S)))) : Go p e below G (T.setTop (mkF m pc Ls (.int y :: .long x :: S))) := by
  subst hp; exact Go.mono (fun t k => XT.lushr D.st.here D.ex rfl (hb D.cb hd) rfl k) hr
theorem g_lcmp (D : Wk p l e R m args below meth c own bytes maxL Z I s' T locs cells slots h) (pc' : Nat) {x y : Int64} (hd : decode bytes pc = .ok (.lcmp, 1)) (hp : pc + 1 = pc') (hr : Go p e below G (T.setTop (mkF m pc' Ls (.int (XT.cmpL x y) :: S)))) : Go p e below G (T.setTop (mkF m pc Ls (.long y :: .long x :: S))) := by
  subst hp; exact Go.mono (fun t k => XT.lcmp D.st.here D.ex rfl (hb D.cb hd) rfl k) hr
theorem g_irem (D : Wk p l e R m args below meth c own bytes maxL Z I s' T locs cells slots h) (pc' : Nat) {x y : Int32} (hd : decode bytes pc = .ok (.irem, 1)) (hy : y ≠ 0) (hp : pc + 1 = pc') (hr : Go p e below G (T.setTop (mkF m pc' Ls (.int (x % y) :: S)))) : Go p e below G (T.setTop (mkF m pc Ls (.int y :: .int x :: S))) := by
  subst hp; exact Go.mono (fun t k => iremM D.st D.ex rfl (hb D.cb hd) rfl hy k) hr
theorem g_i2l (D : Wk p l e R m args below meth c own bytes maxL Z I s' T locs cells slots h) (pc' : Nat) {x : Int32} (hd : decode bytes pc = .ok (.i2l, 1)) (hp : pc + 1 = pc') (hr : Go p e below G (T.setTop (mkF m pc' Ls (.long (x.toInt64) :: S)))) : Go p e below G (T.setTop (mkF m pc Ls (.int x :: S))) := by
  subst hp; exact Go.mono (fun t k => XS.i2l D.st.here D.ex rfl (hb D.cb hd) rfl k) hr
theorem g_l2i (D : Wk p l e R m args below meth c own bytes maxL Z I s' T locs cells slots h) (pc' : Nat) {x : Int64} (hd : decode bytes pc = .ok (.l2i, 1)) (hp : pc + 1 = pc') (hr : Go p e below G (T.setTop (mkF m pc' Ls (.int (x.toInt32) :: S)))) : Go p e below G (T.setTop (mkF m pc Ls (.long x :: S))) := by
  subst hp; exact Go.mono (fun t k => XS.l2i D.st.here D.ex rfl (hb D.cb hd) rfl k) hr
theorem g_i2b (D : Wk p l e R m args below meth c own bytes maxL Z I s' T locs cells slots h) (pc' : Nat) {x : Int32} (hd : decode bytes pc = .ok (.i2b, 1)) (hp : pc + 1 = pc') (hr : Go p e below G (T.setTop (mkF m pc' Ls (.int (x.toInt8.toInt32) :: S)))) : Go p e below G (T.setTop (mkF m pc Ls (.int x :: S))) := by
  subst hp; exact Go.mono (fun t k => XS.i2b D.st.here D.ex rfl (hb D.cb hd) rfl k) hr
theorem g_i2c (D : Wk p l e R m args below meth c own bytes maxL Z I s' T locs cells slots h) (pc' : Nat) {x : Int32} (hd : decode bytes pc = .ok (.i2c, 1)) (hp : pc + 1 = pc') (hr : Go p e below G (T.setTop (mkF m pc' Ls (.int (x.toUInt32.toUInt16.toUInt32.toInt32) :: S)))) : Go p e below G (T.setTop (mkF m pc Ls (.int x :: S))) := by
  subst hp; exact Go.mono (fun t k => XS.i2c D.st.here D.ex rfl (hb D.cb hd) rfl k) hr
theorem g_dup (D : Wk p l e R m args below meth c own bytes maxL Z I s' T locs cells slots h) (pc' : Nat) {x : Value} (hd : decode bytes pc = .ok (.dup, 1)) (hc : x.category = 1) (hp : pc + 1 = pc') (hr : Go p e below G (T.setTop (mkF m pc' Ls (x :: x :: S)))) : Go p e below G (T.setTop (mkF m pc Ls (x :: S))) := by
  subst hp; exact Go.mono (fun t k => XS.dup D.st.here D.ex rfl (hb D.cb hd) rfl hc k) hr
theorem g_pop (D : Wk p l e R m args below meth c own bytes maxL Z I s' T locs cells slots h) (pc' : Nat) {x : Value} (hd : decode bytes pc = .ok (.pop, 1)) (hc : x.category = 1) (hp : pc + 1 = pc') (hr : Go p e below G (T.setTop (mkF m pc' Ls S))) : Go p e below G (T.setTop (mkF m pc Ls (x :: S))) := by
  subst hp; exact Go.mono (fun t k => XS.pop D.st.here D.ex rfl (hb D.cb hd) rfl hc k) hr
theorem g_iinc (D : Wk p l e R m args below meth c own bytes maxL Z I s' T locs cells slots h) (pc' : Nat) {k : Nat} {cst : Int} {x : Int32} (v : Int32) (l' : Array Slot) (hd : decode bytes pc = .ok (.iinc k cst, 3)) (hv : Int32.ofInt cst = v) (hl : Ls[k]? = some (.val (.int x))) (hl' : storeLocals Ls k (.int (x + v)) = some l') (hp : pc + 3 = pc') (hr : Go p e below G (T.setTop (mkF m pc' l' S))) : Go p e below G (T.setTop (mkF m pc Ls S)) := by
  subst hp; subst hv; exact Go.mono (fun t k => XS.iinc D.st.here D.ex rfl (hb D.cb hd) hl hl' k) hr
theorem g_goto (D : Wk p l e R m args below meth c own bytes maxL Z I s' T locs cells slots h) (pc' : Nat) {o : Int} (hd : decode bytes pc = .ok (.goto o, 3)) (ho : 0 ≤ (pc : Int) + o) (hp : ((pc : Int) + o).toNat = pc') (hr : Go p e below G (T.setTop (mkF m pc' Ls S))) : Go p e below G (T.setTop (mkF m pc Ls S)) :=
  Go.mono (fun t k => XS.goto D.st.here D.ex rfl rfl (hb D.cb hd) ho hp k) hr
theorem g_icmpY (D : Wk p l e R m args below meth c own bytes maxL Z I s' T locs cells slots h) (pc' : Nat) {cd : ClassFile.Cond} {x y : Int32} {o : Int} (hd : decode bytes pc = .ok (.if_icmp cd o, 3)) (hc : if_icmp.holds cd x y = true) (ho : 0 ≤ (pc : Int) + o) (hp : ((pc : Int) + o).toNat = pc') (hr : Go p e below G (T.setTop (mkF m pc' Ls S))) : Go p e below G (T.setTop (mkF m pc Ls (.int y :: .int x :: S))) :=
  Go.mono (fun t k => XS.icmpYes D.st.here D.ex rfl rfl (hb D.cb hd) rfl hc ho hp k) hr
theorem g_icmpN (D : Wk p l e R m args below meth c own bytes maxL Z I s' T locs cells slots h) (pc' : Nat) {cd : ClassFile.Cond} {x y : Int32} {o : Int} (hd : decode bytes pc = .ok (.if_icmp cd o, 3)) (hc : if_icmp.holds cd x y = false) (hp : pc + 3 = pc') (hr : Go p e below G (T.setTop (mkF m pc' Ls S))) : Go p e below G (T.setTop (mkF m pc Ls (.int y :: .int x :: S))) := by
  subst hp; exact Go.mono (fun t k => XS.icmpNo D.st.here D.ex rfl (hb D.cb hd) rfl hc k) hr
theorem g_ifY (D : Wk p l e R m args below meth c own bytes maxL Z I s' T locs cells slots h) (pc' : Nat) {cd : ClassFile.Cond} {x : Int32} {o : Int} (hd : decode bytes pc = .ok (.ifCond cd o, 3)) (hc : if_icmp.holds cd x 0 = true) (ho : 0 ≤ (pc : Int) + o) (hp : ((pc : Int) + o).toNat = pc') (hr : Go p e below G (T.setTop (mkF m pc' Ls S))) : Go p e below G (T.setTop (mkF m pc Ls (.int x :: S))) :=
  Go.mono (fun t k => XS.ifYes D.st.here D.ex rfl rfl (hb D.cb hd) rfl ((if0 _ _).trans hc) ho hp k) hr
theorem g_ifN (D : Wk p l e R m args below meth c own bytes maxL Z I s' T locs cells slots h) (pc' : Nat) {cd : ClassFile.Cond} {x : Int32} {o : Int} (hd : decode bytes pc = .ok (.ifCond cd o, 3)) (hc : if_icmp.holds cd x 0 = false) (hp : pc + 3 = pc') (hr : Go p e below G (T.setTop (mkF m pc' Ls S))) : Go p e below G (T.setTop (mkF m pc Ls (.int x :: S))) := by
  subst hp; exact Go.mono (fun t k => XS.ifNo D.st.here D.ex rfl (hb D.cb hd) rfl ((if0 _ _).trans hc) k) hr
theorem g_nullN (D : Wk p l e R m args below meth c own bytes maxL Z I s' T locs cells slots h) (pc' : Nat) {o : Int} {b : Addr} (hd : decode bytes pc = .ok (.ifnull o, 3)) (hp : pc + 3 = pc') (hr : Go p e below G (T.setTop (mkF m pc' Ls S))) : Go p e below G (T.setTop (mkF m pc Ls (.ref b :: S))) := by
  subst hp; exact Go.mono (fun t k => XS.ifnullNo D.st.here D.ex rfl (hb D.cb hd) rfl k) hr
theorem g_nnY (D : Wk p l e R m args below meth c own bytes maxL Z I s' T locs cells slots h) (pc' : Nat) {o : Int} {b : Addr} (hd : decode bytes pc = .ok (.ifnonnull o, 3)) (ho : 0 ≤ (pc : Int) + o) (hp : ((pc : Int) + o).toNat = pc') (hr : Go p e below G (T.setTop (mkF m pc' Ls S))) : Go p e below G (T.setTop (mkF m pc Ls (.ref b :: S))) :=
  Go.mono (fun t k => XS.ifnonnullYes D.st.here D.ex rfl rfl (hb D.cb hd) rfl ho hp k) hr
theorem g_nnN (D : Wk p l e R m args below meth c own bytes maxL Z I s' T locs cells slots h) (pc' : Nat) {o : Int} (hd : decode bytes pc = .ok (.ifnonnull o, 3)) (hp : pc + 3 = pc') (hr : Go p e below G (T.setTop (mkF m pc' Ls S))) : Go p e below G (T.setTop (mkF m pc Ls (.null :: S))) := by
  subst hp; exact Go.mono (fun t k => XS.ifnonnullNo D.st.here D.ex rfl (hb D.cb hd) rfl k) hr
theorem g_acmp (D : Wk p l e R m args below meth c own bytes maxL Z I s' T locs cells slots h) (pc' : Nat) {cd : ACond} {x y : Value} {o : Int} (hd : decode bytes pc = .ok (.if_acmp cd o, 3)) (h1 : x.isRef = true) (h2 : y.isRef = true) {same : Bool} (hq : decide (x = y) = same) (ho : 0 ≤ (pc : Int) + o) (hp : pc' = if acV cd same = true then ((pc : Int) + o).toNat else pc + 3) (hr : Go p e below G (T.setTop (mkF m pc' Ls S))) : Go p e below G (T.setTop (mkF m pc Ls (y :: x :: S))) :=
  Go.mono (fun t k => Jvm.RoadKit.acmp (g := mkF m pc Ls (y :: x :: S)) D.st D.ex rfl h1 h2 rfl (hb D.cb hd) rfl hq ho hp k) hr
theorem g_ldc2J (D : Wk p l e R m args below meth c own bytes maxL Z I s' T locs cells slots h) (pc' : Nat) {index : Nat} {v : Int64} (w : (Cond.constantLong own index v).before a0 Z = true) (hd : decode bytes pc = .ok (.ldc2_w index, 3)) (hp : pc + 3 = pc') (hr : Go p e below G (T.setTop (mkF m pc' Ls (.long v :: S)))) : Go p e below G (T.setTop (mkF m pc Ls S)) := by
  subst hp; exact Go.mono (fun t k => Jvm.Stand.ldc2J D.st D.ex D.ow (mv D.wm w) rfl (hb D.cb hd) k) hr
theorem g_getF (D : Wk p l e R m args below meth c own bytes maxL Z I s' T locs cells slots h) (pc' : Nat) {R0 O n d : String} {index : Nat} (w : (Cond.fieldLink own index R0 n d).before a0 Z = true) (via : Via Z R0 O n d) {a : Addr} {v : Value} (F : Fld Z h a O n d v) (hd : decode bytes pc = .ok (.getfield index, 3)) (hp : pc + 3 = pc')
    (hr : ∀ T', Wk p l e R m args below meth c own bytes maxL Z I s' T' locs cells slots h → Go p e below G (T'.setTop (mkF m pc' Ls (v :: S)))) : Go p e below G (T.setTop (mkF m pc Ls (.ref a :: S))) := by
  subst hp
  obtain ⟨T', X', e', st⟩ := getF D.st D.ex D.wm D.ow (host := "") (Or.inl w) via D.eq F (g := mkF m pc Ls (.ref a :: S)) rfl rfl (hb D.cb hd)
  exact Go.mono st (hr T' (D.mk' X' e' D.iv))
theorem g_getS (D : Wk p l e R m args below meth c own bytes maxL Z I s' T locs cells slots h) (pc' : Nat) {R0 O n d : String} {index : Nat} (w : (Cond.fieldLink own index R0 n d).before a0 Z = true) (via : Via Z R0 O n d) {v : Value} (F : Sta Z h O n d v) (hd : decode bytes pc = .ok (.getstatic index, 3)) (hp : pc + 3 = pc')
    (hr : ∀ T', Wk p l e R m args below meth c own bytes maxL Z I s' T' locs cells slots h → Go p e below G (T'.setTop (mkF m pc' Ls (v :: S)))) : Go p e below G (T.setTop (mkF m pc Ls S)) := by
  subst hp
  obtain ⟨T', X', e', st⟩ := getS (host := "") D.st D.ex D.wm D.ow w via D.eq F (g := mkF m pc Ls S) rfl (hb D.cb hd)
  exact Go.mono st (hr T' (D.mk' X' e' D.iv))
theorem g_putF (D : Wk p l e R m args below meth c own bytes maxL Z I s' T locs cells slots h) (pc' : Nat) {R0 O n d C : String} {index kk : Nat} {ty : FieldType} (w : (Cond.fieldLink own index R0 n d).before a0 Z = true) (via : Via Z R0 O n d) {a : Addr} {v old : Value} (F : Fld Z h a O n d old) (E : Exa Z h a C)
    (L : (Cond.lays C O n d).before a0 Z = true ∨ ((Cond.laysFinal C O n d).before a0 Z = true ∧ own = O ∧ meth.name = "<init>")) (wi : (Cond.instantiable C kk).before a0 Z = true) (hty : parseFieldDescriptor d = some ty) (hn : narrow ty v = v) (hf : fits ty v = true)
    (hI : ∀ h', Wr h h' a (RoadKit.slotOf Z O n d) v → I s' h') (hd : decode bytes pc = .ok (.putfield index, 3)) (hp : pc + 3 = pc')
    (hr : ∀ T' h', Wr h h' a (RoadKit.slotOf Z O n d) v → Wk p l e R m args below meth c own bytes maxL Z I s' T' (locs ++ [⟨a, RoadKit.slotOf Z O n d⟩]) cells slots h' → Go p e below G (T'.setTop (mkF m pc' Ls S))) : Go p e below G (T.setTop (mkF m pc Ls (v :: .ref a :: S))) := by
  subst hp
  obtain ⟨T', h', X', e', W', st⟩ := putF D.st D.ex D.wm D.ow (host := "") (Or.inl w) via D.eq F E L wi hty hn hf (g := mkF m pc Ls (v :: .ref a :: S)) rfl rfl (hb D.cb hd)
  exact Go.mono st (hr T' h' W' (D.mk' X' e' (hI h' W')))
theorem g_newO (D : Wk p l e R m args below meth c own bytes maxL Z I s' T locs cells slots h) (pc' : Nat) {C : String} {index n : Nat} (w : (Cond.classLink own index C).before a0 Z = true) (wi : (Cond.instantiable C n).before a0 Z = true) (wz : (Cond.initialized C).before a0 Z = true) (hd : decode bytes pc = .ok (.new index, 3)) (hc : cells + 1 ≤ R.cells) (hl : slots + n ≤ R.slots) (hI : ∀ h', Ext h h' → I s' h') (hp : pc + 3 = pc')
    (hr : ∀ T' h' a, a = h.size → Ext h h' → Exa Z h' a C → (∀ {O nm d : String} {ty : FieldType}, Laid Z a0 C O nm d → parseFieldDescriptor d = some ty → Fld Z h' a O nm d (defaultValue ty)) → Wk p l e R m args below meth c own bytes maxL Z I s' T' locs (cells + 1) (slots + n) h' → Go p e below G (T'.setTop (mkF m pc' Ls (.ref a :: S)))) : Go p e below G (T.setTop (mkF m pc Ls S)) := by
  subst hp
  obtain ⟨T', h', X', e', E', A', D', -, st⟩ := newO D.st D.ex D.wm D.ow w wi wz D.eq (g := mkF m pc Ls S) rfl (hb D.cb hd) hc hl
  exact Go.mono st (hr T' h' _ rfl E' A' D' (D.mk' X' e' (hI h' E')))
theorem g_newP (D : Wk p l e R m args below meth c own bytes maxL Z I s' T locs cells slots h) (pc' : Nat) {aty : ArrayType} (w : (Cond.arrayClass (newarray.typeOf aty)).before a0 Z = true) {n : Int32} (hd : decode bytes pc = .ok (.newarray aty, 2)) (hn : ¬ n < 0) {cap : Nat} (hcap : n.toNatClampNeg ≤ cap) (hb' : cap * 8 ≤ 536870912) (hc : cells + 1 ≤ R.cells) (hl : slots + cap ≤ R.slots) (hI : ∀ h', Ext h h' → I s' h') (hp : pc + 2 = pc')
    (hr : ∀ T' h' a k, a = h.size → Ext h h' → Arv Z h' a k (newarray.typeOf aty) n [] (defaultValue (newarray.typeOf aty)) → Wk p l e R m args below meth c own bytes maxL Z I s' T' locs (cells + 1) (slots + cap) h' → Go p e below G (T'.setTop (mkF m pc' Ls (.ref a :: S)))) : Go p e below G (T.setTop (mkF m pc Ls (.int n :: S))) := by
  subst hp
  obtain ⟨T', h', k, X', e', E', A', st⟩ := newP D.st D.ex D.wm w D.eq (g := mkF m pc Ls (.int n :: S)) rfl (hb D.cb hd) rfl hn hcap hb' hc hl
  exact Go.mono st (hr T' h' _ k rfl E' (Arv.new A' hn) (D.mk' X' e' (hI h' E')))
theorem g_alen (D : Wk p l e R m args below meth c own bytes maxL Z I s' T locs cells slots h) (pc' : Nat) {a : Addr} {k : ClassId} {ty : FieldType} {n : Int32} {vs : List Value} {d : Value} (V : Arv Z h a k ty n vs d) (hd : decode bytes pc = .ok (.arraylength, 1)) (hp : pc + 1 = pc') (hr : Go p e below G (T.setTop (mkF m pc' Ls (.int n :: S)))) : Go p e below G (T.setTop (mkF m pc Ls (.ref a :: S))) := by
  subst hp
  obtain ⟨cl, A, -, q, q', -⟩ := V
  refine Go.mono (fun t k => D.st.arraylength D.ex (by rw [D.eq]; exact A.1) (State.isArrayOf_alike D.wm.alike A.2.1) (g := mkF m pc Ls (.ref a :: S)) rfl rfl (hb D.cb hd) t k) ?_
  rw [len_of q q']; exact hr
theorem g_caload (D : Wk p l e R m args below meth c own bytes maxL Z I s' T locs cells slots h) (pc' : Nat) {a : Addr} {k : ClassId} {n j : Int32} {vs : List Value} {d v : Value} (V : Arv Z h a k .char n vs d) (hj : ¬ j < 0 ∧ j < n) (hv : vs.getD j.toNatClampNeg d = v) (hd : decode bytes pc = .ok (.caload, 1)) (hp : pc + 1 = pc') (hr : Go p e below G (T.setTop (mkF m pc' Ls (v :: S)))) : Go p e below G (T.setTop (mkF m pc Ls (.int j :: .ref a :: S))) := by
  subst hp
  obtain ⟨cl, A, -, q, q', H, -⟩ := V
  exact Go.mono (fun t k => D.st.caload D.ex (by rw [D.eq]; exact A.1) (State.isArrayOf_alike D.wm.alike A.2.1) A.2.2 (inb_of q hj) (H.at (inb_of q hj) hv) (g := mkF m pc Ls (.int j :: .ref a :: S)) rfl rfl (hb D.cb hd) t k) hr
theorem g_baload (D : Wk p l e R m args below meth c own bytes maxL Z I s' T locs cells slots h) (pc' : Nat) {a : Addr} {k : ClassId} {n j : Int32} {vs : List Value} {d v : Value} (V : Arv Z h a k .byte n vs d) (hj : ¬ j < 0 ∧ j < n) (hv : vs.getD j.toNatClampNeg d = v) (hd : decode bytes pc = .ok (.baload, 1)) (hp : pc + 1 = pc') (hr : Go p e below G (T.setTop (mkF m pc' Ls (v :: S)))) : Go p e below G (T.setTop (mkF m pc Ls (.int j :: .ref a :: S))) := by
  subst hp
  obtain ⟨cl, A, -, q, q', H, -⟩ := V
  exact Go.mono (fun t k => D.st.baloadBytes D.ex (by rw [D.eq]; exact A.1) (State.isArrayOf_alike D.wm.alike A.2.1) A.2.2 (inb_of q hj) (H.at (inb_of q hj) hv) (g := mkF m pc Ls (.int j :: .ref a :: S)) rfl rfl (hb D.cb hd) t k) hr
theorem g_castore (D : Wk p l e R m args below meth c own bytes maxL Z I s' T locs cells slots h) (pc' : Nat) {a : Addr} {k : ClassId} {n j : Int32} {x : Int32} {vs : List Value} {d : Value} (V : Arv Z h a k .char n vs d) (hj : ¬ j < 0 ∧ j < n) (i : Nat) (hi : j.toNatClampNeg = i) (hv : i < vs.length) (hI : ∀ h', Wr h h' a j.toNatClampNeg (.int (nar .char x)) → I s' h') (hd : decode bytes pc = .ok (.castore, 1)) (hp : pc + 1 = pc')
    (hr : ∀ T' h', Wr h h' a j.toNatClampNeg (.int (nar .char x)) → Arv Z h' a k .char n (vs.set i (.int (nar .char x))) d → Wk p l e R m args below meth c own bytes maxL Z I s' T' (locs ++ [⟨a, j.toNatClampNeg⟩]) cells slots h' → Go p e below G (T'.setTop (mkF m pc' Ls S))) : Go p e below G (T.setTop (mkF m pc Ls (.int x :: .int j :: .ref a :: S))) := by
  subst hp
  obtain ⟨cl, A, q1, q, q', H, F⟩ := V
  obtain ⟨T', h', X', e', W', st⟩ := stC D.st D.ex D.wm D.eq A (inb_of q hj) (g := mkF m pc Ls (.int x :: .int j :: .ref a :: S)) rfl rfl (hb D.cb hd)
  exact Go.mono st (hr T' h' W' (Arv.set A q1 q q' H F (fits_nar_char _) W' i hi hv) (D.mk' X' e' (hI h' W')))
theorem g_bastore (D : Wk p l e R m args below meth c own bytes maxL Z I s' T locs cells slots h) (pc' : Nat) {a : Addr} {k : ClassId} {n j : Int32} {x : Int32} {vs : List Value} {d : Value} (V : Arv Z h a k .byte n vs d) (hj : ¬ j < 0 ∧ j < n) (i : Nat) (hi : j.toNatClampNeg = i) (hv : i < vs.length) (hI : ∀ h', Wr h h' a j.toNatClampNeg (.int (nar .byte x)) → I s' h') (hd : decode bytes pc = .ok (.bastore, 1)) (hp : pc + 1 = pc')
    (hr : ∀ T' h', Wr h h' a j.toNatClampNeg (.int (nar .byte x)) → Arv Z h' a k .byte n (vs.set i (.int (nar .byte x))) d → Wk p l e R m args below meth c own bytes maxL Z I s' T' (locs ++ [⟨a, j.toNatClampNeg⟩]) cells slots h' → Go p e below G (T'.setTop (mkF m pc' Ls S))) : Go p e below G (T.setTop (mkF m pc Ls (.int x :: .int j :: .ref a :: S))) := by
  subst hp
  obtain ⟨cl, A, q1, q, q', H, F⟩ := V
  obtain ⟨T', h', X', e', W', st⟩ := stB D.st D.ex D.wm D.eq A (inb_of q hj) (g := mkF m pc Ls (.int x :: .int j :: .ref a :: S)) rfl rfl (hb D.cb hd)
  exact Go.mono st (hr T' h' W' (Arv.set A q1 q q' H F (fits_nar_byte _) W' i hi hv) (D.mk' X' e' (hI h' W')))
theorem g_initO (D : Wk p l e R m args below meth c own bytes maxL Z I s' T locs cells slots h) (pc' : Nat) {idx : Nat} (w1 : (Cond.methodLink own idx Lib.objectInit).before a0 Z = true) (w2 : (Cond.instanceMethod Lib.objectInit).before a0 Z = true) (w3 : (Cond.code Lib.objectInit ⟨#[0xb1]⟩ 1 none).before a0 Z = true) (hsz : Ls.size = maxL) {a : Addr} (hd : decode bytes pc = .ok (.invokespecial idx, 3)) (hf : 1 ≤ R.frames) {W : Nat} (hW : (S.map fun v => v.category).sum ≤ W) (hl : W + 12 ≤ R.locals) (hp : pc + 3 = pc')
    (hr : ∀ T', Wk p l e R m args below meth c own bytes maxL Z I s' T' locs cells slots h → Go p e below G (T'.setTop (mkF m pc' Ls S))) : Go p e below G (T.setTop (mkF m pc Ls (.ref a :: S))) := by
  subst hp
  obtain ⟨T', X', e', st⟩ := initO D.st D.ex D.wm D.ow w1 w2 w3 D.eq (g := mkF m pc Ls (.ref a :: S)) rfl (by rw [D.ml]; exact hsz) rfl (hb D.cb hd) hf (W := W) (by simpa using hW) hl
  exact Go.mono st (hr T' (D.mk' X' e' D.iv))
theorem g_callS (D : Wk p l e R m args below meth c own bytes maxL Z I s' T locs cells slots h) (pc' : Nat) {index : Nat} {y : MethodName} {bz : ByteArray} {mL : Nat} {ret' : Option FieldType} {W ck sk : Nat} {as' : Array Value} {Q : Option Value → Heap → List Loc → Prop} (w1 : (Cond.methodLink own index y).before a0 Z = true) (w2 : (Cond.static y).before a0 Z = true) (w3 : (Cond.initialized y.cls).before a0 Z = true) (w4 : (Cond.code y bz mL ret').before a0 Z = true) (hy : y.cls ≠ "java/lang/invoke/MethodHandle" ∧ y.cls ≠ "java/lang/invoke/VarHandle")
    (K : Back l R p e below s' args y 3 W (fun A a => a = as' ∧ A.U.heap = h ∧ A.cells + ck ≤ R.cells ∧ A.slots + sk ≤ R.slots) (fun A _ v B => ∃ L, Q v B.U.heap L ∧ B.locs = A.locs ++ L ∧ B.cells = A.cells + ck ∧ B.slots = A.slots + sk)) (hsz : Ls.size = maxL) (argsL : List Value) (has : argsL.toArray = as') (hlen : ∀ sig, parseMethodDescriptor y.desc = some sig → argsL.length = sig.parameters.length) {S0 : List Value} (hst : S0 = argsL.reverse ++ S) (hW : (S.map fun v => v.category).sum ≤ W) (hc : cells + ck ≤ R.cells) (hl : slots + sk ≤ R.slots) (hI : ∀ v h' L, Q v h' L → I s' h') (hd : decode bytes pc = .ok (.invokestatic index, 3)) (hp : pc + 3 = pc')
    (hr : ∀ v T' h' L, Q v h' L → Wk p l e R m args below meth c own bytes maxL Z I s' T' (locs ++ L) (cells + ck) (slots + sk) h' → Go p e below G (T'.setTop (mkF m pc' Ls (v.toList ++ S)))) : Go p e below G (T.setTop (mkF m pc Ls S0)) := by
  subst hp hst
  obtain ⟨v, _, ⟨T', L', k', n'⟩, -, X', ⟨L, hQ, l', y', z'⟩, st⟩ := Jvm.LawKit.callS D.st D.ex D.ow (mvT D.wm w1) (mvT D.wm w2) (mvT D.wm w3) (mvT D.wm w4) hy K (g := mkF m pc Ls (argsL.reverse ++ S)) rfl (by rw [D.ml]; exact hsz) (argsL := argsL) (rest := S) hlen rfl (by simpa using hW) (hb D.cb hd) (fun _ _ => ⟨has, D.eq, hc, hl⟩)
  dsimp only at X' l' y' z' st hQ
  subst l' y' z'
  exact Go.mono st (hr v T' _ L hQ (D.mk' X' rfl (hI v _ L hQ)))
theorem g_callV (D : Wk p l e R m args below meth c own bytes maxL Z I s' T locs cells slots h) (pc' : Nat) {index : Nat} {y z : MethodName} {C : String} {W ck sk : Nat} {as' : Array Value} {Q : Option Value → Heap → List Loc → Prop} (w1 : (Cond.methodLink own index y).before a0 Z = true) (w2 : (Cond.declares y).before a0 Z = true) (hnf : NotFace s' y) (w4 : (Cond.selects C y z).before a0 Z = true) (w5 : (Cond.instanceMethod z).before a0 Z = true) (hy : y.cls ≠ "java/lang/invoke/MethodHandle" ∧ y.cls ≠ "java/lang/invoke/VarHandle")
    (K : Back l R p e below s' args z 3 W (fun A a => a = as' ∧ A.U.heap = h ∧ A.cells + ck ≤ R.cells ∧ A.slots + sk ≤ R.slots) (fun A _ v B => ∃ L, Q v B.U.heap L ∧ B.locs = A.locs ++ L ∧ B.cells = A.cells + ck ∧ B.slots = A.slots + sk)) {b : Addr} (E : Exa Z h b C) (hsz : Ls.size = maxL) (argsL : List Value) (has : (.ref b :: argsL).toArray = as') (hlen : ∀ sig, parseMethodDescriptor y.desc = some sig → argsL.length = sig.parameters.length) {S0 : List Value} (hst : S0 = argsL.reverse ++ .ref b :: S) (hW : (S.map fun v => v.category).sum ≤ W) (hc : cells + ck ≤ R.cells) (hl : slots + sk ≤ R.slots) (hI : ∀ v h' L, Q v h' L → I s' h') (hd : decode bytes pc = .ok (.invokevirtual index, 3)) (hp : pc + 3 = pc')
    (hr : ∀ v T' h' L, Q v h' L → Wk p l e R m args below meth c own bytes maxL Z I s' T' (locs ++ L) (cells + ck) (slots + sk) h' → Go p e below G (T'.setTop (mkF m pc' Ls (v.toList ++ S)))) : Go p e below G (T.setTop (mkF m pc Ls S0)) := by
  subst hp hst
  obtain ⟨cq, kq, qa, qb, qc⟩ := isOf D.wm D.eq E
  obtain ⟨v, _, ⟨T', L', k', n'⟩, -, X', ⟨L, hQ, l', y', z'⟩, st⟩ := D.st.virtualBack D.ex (y := y) (z := z) D.ow (mvT D.wm w1) (mvT D.wm w2) hnf (mvT D.wm w4) (mvT D.wm w5) hy K qa qc (g := mkF m pc Ls (argsL.reverse ++ .ref b :: S)) rfl (by rw [D.ml]; exact hsz) (Steps.refl _) (argsL := argsL) (rest := S) hlen rfl (by simpa using hW) (hb D.cb hd) (fun _ _ => ⟨has, D.eq, hc, hl⟩)
  dsimp only at X' l' y' z' st hQ
  subst l' y' z'
  exact Go.mono (fun t k => st.trans k) (hr v T' _ L hQ (D.mk' X' rfl (hI v _ L hQ)))
theorem g_callN (D : Wk p l e R m args below meth c own bytes maxL Z I s' T locs cells slots h) (pc' : Nat) {index : Nat} {y : MethodName} {bz : ByteArray} {mL : Nat} {W ck sk : Nat} {as' : Array Value} {Q : Option Value → Heap → List Loc → Prop} (hy1 : y.name = "<init>") (w1 : (Cond.methodLink own index y).before a0 Z = true) (w2 : (Cond.instanceMethod y).before a0 Z = true) (w3 : (Cond.code y bz mL none).before a0 Z = true) (hy : y.cls ≠ "java/lang/invoke/MethodHandle" ∧ y.cls ≠ "java/lang/invoke/VarHandle")
    (K : Back l R p e below s' args y 3 W (fun A a => a = as' ∧ A.U.heap = h ∧ A.cells + ck ≤ R.cells ∧ A.slots + sk ≤ R.slots) (fun A _ v B => ∃ L, Q v B.U.heap L ∧ B.locs = A.locs ++ L ∧ B.cells = A.cells + ck ∧ B.slots = A.slots + sk)) {b : Addr} (hsz : Ls.size = maxL) (argsL : List Value) (has : (.ref b :: argsL).toArray = as') (hlen : ∀ sig, parseMethodDescriptor y.desc = some sig → argsL.length = sig.parameters.length) {S0 : List Value} (hst : S0 = argsL.reverse ++ .ref b :: S) (hW : (S.map fun v => v.category).sum ≤ W) (hc : cells + ck ≤ R.cells) (hl : slots + sk ≤ R.slots) (hI : ∀ v h' L, Q v h' L → I s' h') (hd : decode bytes pc = .ok (.invokespecial index, 3)) (hp : pc + 3 = pc')
    (hr : ∀ v T' h' L, Q v h' L → Wk p l e R m args below meth c own bytes maxL Z I s' T' (locs ++ L) (cells + ck) (slots + sk) h' → Go p e below G (T'.setTop (mkF m pc' Ls (v.toList ++ S)))) : Go p e below G (T.setTop (mkF m pc Ls S0)) := by
  subst hp hst
  obtain ⟨v, _, ⟨T', L', k', n'⟩, -, X', ⟨L, hQ, l', y', z'⟩, st⟩ := D.st.specialBack D.ex (y := y) hy1 D.ow (mvT D.wm w1) (mvT D.wm w2) (mvT D.wm w3) hy K (g := mkF m pc Ls (argsL.reverse ++ .ref b :: S)) rfl (by rw [D.ml]; exact hsz) (Steps.refl _) (a := b) (argsL := argsL) (rest := S) hlen rfl (by simpa using hW) (hb D.cb hd) (fun _ _ => ⟨has, D.eq, hc, hl⟩)
  dsimp only at X' l' y' z' st hQ
  subst l' y' z'
  exact Go.mono (fun t k => st.trans k) (hr v T' _ L hQ (D.mk' X' rfl (hI v _ L hQ)))
theorem g_cpA (D : Wk p l e R m args below meth c own bytes maxL Z I s' T locs cells slots h) (pc' : Nat) {index : Nat} (w1 : (Cond.methodLink own index Jvm.Stand.acN).before a0 Z = true) (w2 : (Cond.native Jvm.Stand.acN).before a0 Z = true) (w3 : (Cond.static Jvm.Stand.acN).before a0 Z = true) (w4 : (Cond.initialized "java/lang/System").before a0 Z = true) {a b : Addr} {k k' : ClassId} {ty : FieldType} {z z' sp dp nn : Int32} {vs vd : List Value} {dv dd : Value} (us : List Value) (A : Arv Z h a k ty z vs dv) (B : Arv Z h b k' ty z' vd dd) (hty : refKind ty = false)
    (h1 : ¬ sp < 0) (h2 : ¬ dp < 0) (h3 : ¬ nn < 0) (h4 : sp.toNatClampNeg + nn.toNatClampNeg ≤ z.toNatClampNeg) (h5 : dp.toNatClampNeg + nn.toNatClampNeg ≤ z'.toNatClampNeg) (hus : us = (List.range nn.toNatClampNeg).map fun i => vs.getD (sp.toNatClampNeg + i) dv) (hl : dp.toNatClampNeg + nn.toNatClampNeg ≤ vd.length) {n0 : Nat} (N : Fr n0 locs) (ge : n0 ≤ b) (hsz : Ls.size = maxL) (hd : decode bytes pc = .ok (.invokestatic index, 3)) (hf : 1 ≤ R.frames) {W : Nat} (hW : (S.map fun v => v.category).sum ≤ W) (hlo : W + (nativeFrameWords "java/lang/System" "arraycopy" 5 + 11) ≤ R.locals) (hI : ∀ h', Keep h h' [b] → I s' h') (hp : pc + 3 = pc')
    (hr : ∀ T' h' L, Fr n0 L → Keep h h' [b] → Arv Z h' b k' ty z' (vd.take dp.toNatClampNeg ++ us ++ vd.drop (dp.toNatClampNeg + nn.toNatClampNeg)) dd → Wk p l e R m args below meth c own bytes maxL Z I s' T' L cells slots h' → Go p e below G (T'.setTop (mkF m pc' Ls S))) : Go p e below G (T.setTop (mkF m pc Ls (.int nn :: .int dp :: .ref b :: .int sp :: .ref a :: S))) := by
  subst hp
  obtain ⟨T', h', L, X', e', N', K', A', st⟩ := cpA D.st D.ex D.wm D.ow w1 w2 w3 w4 D.eq A B (Or.inl ⟨rfl, hty⟩) h1 h2 h3 h4 h5 hus hl N ge (g := mkF m pc Ls (.int nn :: .int dp :: .ref b :: .int sp :: .ref a :: S)) rfl (by rw [D.ml]; exact hsz) rfl (hb D.cb hd) hf (by simpa using hW) hlo
  exact Go.mono st (hr T' h' L N' K' A' (D.mk' X' e' (hI h' K')))
theorem g_callSp (D : Wk p l e R m args below meth c own bytes maxL Z I s' T locs cells slots h) (pc' : Nat) {index : Nat} {y : MethodName} {bz : ByteArray} {mL : Nat} {ret' : Option FieldType} {W ck sk : Nat} {as' : Array Value} {Pv : Option Value → Prop} (w1 : (Cond.methodLink own index y).before a0 Z = true) (w2 : (Cond.static y).before a0 Z = true) (w3 : (Cond.initialized y.cls).before a0 Z = true) (w4 : (Cond.code y bz mL ret').before a0 Z = true) (hy : y.cls ≠ "java/lang/invoke/MethodHandle" ∧ y.cls ≠ "java/lang/invoke/VarHandle")
    (K : Back l R p e below s' args y 3 W (fun A a => a = as' ∧ A.U.heap = h ∧ A.cells + ck ≤ R.cells ∧ A.slots + sk ≤ R.slots) (fun A _ v B => ∃ L, (Pv v ∧ L = [] ∧ B.U.heap = h) ∧ B.locs = A.locs ++ L ∧ B.cells = A.cells + ck ∧ B.slots = A.slots + sk)) (hsz : Ls.size = maxL) (argsL : List Value) (has : argsL.toArray = as') (hlen : ∀ sig, parseMethodDescriptor y.desc = some sig → argsL.length = sig.parameters.length) {S0 : List Value} (hst : S0 = argsL.reverse ++ S) (hW : (S.map fun v => v.category).sum ≤ W) (hc : cells + ck ≤ R.cells) (hl : slots + sk ≤ R.slots) (hd : decode bytes pc = .ok (.invokestatic index, 3)) (hp : pc + 3 = pc')
    (hr : ∀ v T', Pv v → Wk p l e R m args below meth c own bytes maxL Z I s' T' locs (cells + ck) (slots + sk) h → Go p e below G (T'.setTop (mkF m pc' Ls (v.toList ++ S)))) : Go p e below G (T.setTop (mkF m pc Ls S0)) := by
  refine g_callS D pc' (Q := fun v h' L => Pv v ∧ L = [] ∧ h' = h) w1 w2 w3 w4 hy K hsz argsL has hlen hst hW hc hl (fun v h' L q => q.2.2 ▸ D.iv) hd hp ?_
  intro v T' h' L q D'
  obtain ⟨q1, q2, q3⟩ := q
  subst q2 q3
  rw [List.append_nil] at D'
  exact hr v T' q1 D'
theorem g_callVp (D : Wk p l e R m args below meth c own bytes maxL Z I s' T locs cells slots h) (pc' : Nat) {index : Nat} {y z : MethodName} {C : String} {W ck sk : Nat} {as' : Array Value} {Pv : Option Value → Prop} (w1 : (Cond.methodLink own index y).before a0 Z = true) (w2 : (Cond.declares y).before a0 Z = true) (hnf : NotFace s' y) (w4 : (Cond.selects C y z).before a0 Z = true) (w5 : (Cond.instanceMethod z).before a0 Z = true) (hy : y.cls ≠ "java/lang/invoke/MethodHandle" ∧ y.cls ≠ "java/lang/invoke/VarHandle")
    (K : Back l R p e below s' args z 3 W (fun A a => a = as' ∧ A.U.heap = h ∧ A.cells + ck ≤ R.cells ∧ A.slots + sk ≤ R.slots) (fun A _ v B => ∃ L, (Pv v ∧ L = [] ∧ B.U.heap = h) ∧ B.locs = A.locs ++ L ∧ B.cells = A.cells + ck ∧ B.slots = A.slots + sk)) {b : Addr} (E : Exa Z h b C) (hsz : Ls.size = maxL) (argsL : List Value) (has : (.ref b :: argsL).toArray = as') (hlen : ∀ sig, parseMethodDescriptor y.desc = some sig → argsL.length = sig.parameters.length) {S0 : List Value} (hst : S0 = argsL.reverse ++ .ref b :: S) (hW : (S.map fun v => v.category).sum ≤ W) (hc : cells + ck ≤ R.cells) (hl : slots + sk ≤ R.slots) (hd : decode bytes pc = .ok (.invokevirtual index, 3)) (hp : pc + 3 = pc')
    (hr : ∀ v T', Pv v → Wk p l e R m args below meth c own bytes maxL Z I s' T' locs (cells + ck) (slots + sk) h → Go p e below G (T'.setTop (mkF m pc' Ls (v.toList ++ S)))) : Go p e below G (T.setTop (mkF m pc Ls S0)) := by
  refine g_callV D pc' (Q := fun v h' L => Pv v ∧ L = [] ∧ h' = h) w1 w2 hnf w4 w5 hy K E hsz argsL has hlen hst hW hc hl (fun v h' L q => q.2.2 ▸ D.iv) hd hp ?_
  intro v T' h' L q D'
  obtain ⟨q1, q2, q3⟩ := q
  subst q2 q3
  rw [List.append_nil] at D'
  exact hr v T' q1 D'
/-- the invariant of a walk that loads no literal -/
def NI : State → Heap → Prop := fun _ _ => True
/-- what a walk that loads no literal ends in -/
def NG (s : State) (Q : Option Value → Heap → List Loc → Prop) (ck sk : Nat) : Outcome → State → Prop := fun o U' => ∃ v L, o = .returned v ∧ Q v U'.heap L ∧ FrameEnd s o U' L ck sk
variable {Q : Option Value → Heap → List Loc → Prop} {ck sk : Nat}
theorem r_gen (D : Wk p l e R m args below meth c own bytes maxL Z I s' T locs cells slots h) {v : Option Value} (hv : meth.sig.returnType = none → v = none) (hlk : meth.locks = false) (hst : ∀ fs, (∀ (f : JFrame) (acts : List Action), f.method = m → f.locked = none → f.entered = [] → (doReturn e (T.setTop f) acts v).1 = T.setFrames fs) → Steps p.tables e below (T.setTop (mkF m pc Ls S)) (T.setFrames fs)) (hQ : Q v h locs) (hc : cells ≤ ck) (hs : slots ≤ sk) : Go p e below (NG s' Q ck sk) (T.setTop (mkF m pc Ls S)) := by
  obtain ⟨fs, hr, hrun, hended, hW, hsame⟩ := D.st.leave (v := v) hv hlk
  refine ⟨_, _, hst fs hr, hrun, hended, _, _, rfl, ?_, ⟨_, rfl⟩, hW, hsame.mono hc hs⟩
  show Q v T.heap locs
  rw [D.eq]; exact hQ
theorem r_I (D : Wk p l e R m args below meth c own bytes maxL Z I s' T locs cells slots h) {z : Int32} (hret : meth.sig.returnType = some .int) (hlk : meth.locks = false) (hd : decode bytes pc = .ok (.ireturn, 1)) (hQ : Q (some (.int z)) h locs) (hc : cells ≤ ck) (hs : slots ≤ sk) : Go p e below (NG s' Q ck sk) (T.setTop (mkF m pc Ls (.int z :: S))) :=
  r_gen D (fun h => by rw [hret] at h; cases h) hlk (fun fs hr => retOut D.st D.ex hret rfl (Or.inl ⟨rfl, Or.inl rfl, _, rfl⟩) (hb D.cb hd) hr) hQ hc hs
theorem r_N (D : Wk p l e R m args below meth c own bytes maxL Z I s' T locs cells slots h) {t : FieldType} {z : Int32} (hret : meth.sig.returnType = some t) (ht : t = .boolean ∨ t = .byte ∨ t = .char ∨ t = .short) (hlk : meth.locks = false) (hd : decode bytes pc = .ok (.ireturn, 1)) (hQ : Q (some (.int (nar t z))) h locs) (hc : cells ≤ ck) (hs : slots ≤ sk) : Go p e below (NG s' Q ck sk) (T.setTop (mkF m pc Ls (.int z :: S))) :=
  r_gen D (fun h => by rw [hret] at h; cases h) hlk (fun fs hr => retN D.st D.ex hret ht (hb D.cb hd) hr) hQ hc hs
theorem r_A (D : Wk p l e R m args below meth c own bytes maxL Z I s' T locs cells slots h) {t : FieldType} {w : Value} (hret : meth.sig.returnType = some t) (ht : t.isReference = true) (hw : w.isRef = true) (hlk : meth.locks = false) (hd : decode bytes pc = .ok (.areturn, 1)) (hQ : Q (some w) h locs) (hc : cells ≤ ck) (hs : slots ≤ sk) : Go p e below (NG s' Q ck sk) (T.setTop (mkF m pc Ls (w :: S))) :=
  r_gen D (fun h => by rw [hret] at h; cases h) hlk (fun fs hr => retOut D.st D.ex hret (by cases t <;> first | (cases ht; done) | rfl) (Or.inr (Or.inr (Or.inr (Or.inr ⟨rfl, ht, hw⟩)))) (hb D.cb hd) hr) hQ hc hs
theorem r_V (D : Wk p l e R m args below meth c own bytes maxL Z I s' T locs cells slots h) (hret : meth.sig.returnType = none) (hlk : meth.locks = false) (hd : decode bytes pc = .ok (.return_, 1)) (hQ : Q none h locs) (hc : cells ≤ ck) (hs : slots ≤ sk) : Go p e below (NG s' Q ck sk) (T.setTop (mkF m pc Ls [])) :=
  r_gen D (fun _ => rfl) hlk (fun fs hr => D.st.returnOut D.ex hret (hb D.cb hd) hr) hQ hc hs
end Walk
/-- a contract: called with these arguments at this heap it returns, and Q tells what it leaves -/
abbrev Con (l : Launch) (y : MethodName) (bytes : ByteArray) (maxL : Nat) (ret : Option FieldType) (ws : List Jvm.Cond) (rm : Room) (Z : State) (as' : Array Value) (h0 : Heap) (Q : Option Value → Heap → List Loc → Prop) (ck sk : Nat) : Prop :=
  MetFree l y (head1 (Jvm.Cond.code y bytes maxL ret :: ws) rm) (fun a U => a = as' ∧ Z.Warmed39 U.vm ∧ U.heap = h0) (fun _ _ _ _ _ => True) (fun _ U o U' => ∃ v L, o = .returned v ∧ Q v U'.heap L ∧ FrameEnd U o U' L ck sk)
theorem enter {l : Launch} {y : MethodName} {bytes : ByteArray} {maxL : Nat} {ret : Option FieldType} {ws : List Jvm.Cond} {rm : Room} {Z : State} {as' : Array Value} {h0 : Heap} {Q : Option Value → Heap → List Loc → Prop} {ck sk : Nat} (hpl : plainFor y = true)
    (k : ∀ p e s m below meth c s₁, meth.name = y.name → meth.sig.returnType = ret → meth.locks = false → Wk p l e rm m as' below meth c y.cls bytes maxL Z NI s s₁ [] 0 0 h0 → Go p e below (NG s Q ck sk) (s₁.setTop (entryFrame m as' maxL))) :
    Con l y bytes maxL ret ws rm Z as' h0 Q ck sk := by
  refine MetFree.of_bodySF hpl hisR ?_
  intro p e s m args below meth c s₁ Bd hml0 hP hK
  obtain ⟨rfl, hZ, hh⟩ := hP
  have X0 : Stand p l e rm s m _ below meth c s₁ [] 0 0 := Stand.of_body Bd
  exact k p e s m below meth c s₁ (name_of_methodNamed Bd.named Bd.method).1 Bd.returns Bd.notSynchronized ⟨X0, by rw [← hh, Bd.state]; rfl, hZ, findClass_of_methodNamed Bd.named, Bd.exec, Bd.bytes, hml0, trivial⟩
theorem Con.back {l : Launch} {y : MethodName} {bytes : ByteArray} {maxL : Nat} {ret : Option FieldType} {rm : Room} {Z : State} {as' : Array Value} {h0 : Heap} {Q : Option Value → Heap → List Loc → Prop} (hM : Con l y bytes maxL ret [] rm Z as' h0 Q rm.cells rm.slots) {p : Program} {e : Env} {R : Room} {m : MethodId} {args : Array Value} {below : List Frame} {meth : Method} {c : Code} {own : String} {bz : ByteArray} {mL : Nat} {I : State → Heap → Prop} {s' T : State} {locs : List Loc} {cells slots : Nat} {h : Heap} {a0 : Array Value}
    (D : Wk p l e R m args below meth c own bz mL Z I s' T locs cells slots h) (W : Nat) {len : Nat} (wc : (Cond.code y bytes maxL ret).before a0 Z = true) (wz : (Cond.initialized y.cls).before a0 Z = true) (hf : rm.frames + 1 ≤ R.frames) (hl : W + (maxL + 11) + rm.locals ≤ R.locals) :
    Back l R p e below s' args y len W (fun A a => a = as' ∧ A.U.heap = h0 ∧ A.cells + rm.cells ≤ R.cells ∧ A.slots + rm.slots ≤ R.slots) (fun A _ v B => ∃ L, Q v B.U.heap L ∧ B.locs = A.locs ++ L ∧ B.cells = A.cells + rm.cells ∧ B.slots = A.slots + rm.slots) :=
  backOf hM D.wm wc wz hf hl
theorem wm {i : Nat} {d : Cond} (h : tables_1[i]? = some d) : d ∈ tables_1 := List.mem_of_getElem? h
theorem w_0 : (Cond.methodLink "com/example/same_answer/sameanswer/MediaTypeParameterPinLaw" (7 : Nat) (.mk "com/example/same_answer/sameanswer/MediaTypeParameterPinLaw" "letter" "(I)C")) ∈ tables_1 := wm (i := 0) rfl
theorem w_1 : (Cond.static (.mk "com/example/same_answer/sameanswer/MediaTypeParameterPinLaw" "letter" "(I)C")) ∈ tables_1 := wm (i := 1) rfl
theorem w_2 : (Cond.initialized "com/example/same_answer/sameanswer/MediaTypeParameterPinLaw") ∈ tables_1 := wm (i := 2) rfl
theorem w_3 : (Cond.code (.mk "com/example/same_answer/sameanswer/MediaTypeParameterPinLaw" "letter" "(I)C") method_4_code (1 : Nat) (Option.some Jvm.ClassFile.FieldType.char)) ∈ tables_1 := wm (i := 3) rfl
theorem w_4 : (Cond.methodLink "com/example/same_answer/sameanswer/MediaTypeParameterPinLaw" (13 : Nat) (.mk "java/lang/String" "valueOf" "(C)Ljava/lang/String;")) ∈ tables_1 := wm (i := 4) rfl
theorem w_5 : (Cond.static (.mk "java/lang/String" "valueOf" "(C)Ljava/lang/String;")) ∈ tables_1 := wm (i := 5) rfl
theorem w_6 : (Cond.initialized "java/lang/String") ∈ tables_1 := wm (i := 6) rfl
theorem w_7 : (Cond.code (.mk "java/lang/String" "valueOf" "(C)Ljava/lang/String;") jdk_42_method_139_code (1 : Nat) (Option.some (Jvm.ClassFile.FieldType.object "java/lang/String"))) ∈ tables_1 := wm (i := 7) rfl
theorem w_8 : (Cond.fieldLink "java/lang/String" (38 : Nat) "java/lang/String" "COMPACT_STRINGS" "Z") ∈ tables_1 := wm (i := 8) rfl
theorem w_9 : (Cond.methodLink "java/lang/String" (1015 : Nat) (.mk "java/lang/StringLatin1" "canEncode" "(C)Z")) ∈ tables_1 := wm (i := 9) rfl
theorem w_10 : (Cond.static (.mk "java/lang/StringLatin1" "canEncode" "(C)Z")) ∈ tables_1 := wm (i := 10) rfl
theorem w_11 : (Cond.initialized "java/lang/StringLatin1") ∈ tables_1 := wm (i := 11) rfl
theorem w_12 : (Cond.code (.mk "java/lang/StringLatin1" "canEncode" "(C)Z") jdk_43_method_3_code (1 : Nat) (Option.some Jvm.ClassFile.FieldType.boolean)) ∈ tables_1 := wm (i := 12) rfl
theorem w_13 : (Cond.classLink "java/lang/String" (10 : Nat) "java/lang/String") ∈ tables_1 := wm (i := 13) rfl
theorem w_14 : (Cond.instantiable "java/lang/String" (4 : Nat)) ∈ tables_1 := wm (i := 14) rfl
theorem w_15 : (Cond.methodLink "java/lang/String" (1018 : Nat) (.mk "java/lang/StringLatin1" "toBytes" "(C)[B")) ∈ tables_1 := wm (i := 15) rfl
theorem w_16 : (Cond.static (.mk "java/lang/StringLatin1" "toBytes" "(C)[B")) ∈ tables_1 := wm (i := 16) rfl
theorem w_17 : (Cond.code (.mk "java/lang/StringLatin1" "toBytes" "(C)[B") jdk_43_method_46_code (1 : Nat) (Option.some (Jvm.ClassFile.FieldType.array Jvm.ClassFile.FieldType.byte))) ∈ tables_1 := wm (i := 17) rfl
theorem w_18 : (Cond.arrayClass Jvm.ClassFile.FieldType.byte) ∈ tables_1 := wm (i := 18) rfl
theorem w_19 : (Cond.methodLink "java/lang/String" (209 : Nat) (.mk "java/lang/String" "<init>" "([BB)V")) ∈ tables_1 := wm (i := 19) rfl
theorem w_20 : (Cond.instanceMethod (.mk "java/lang/String" "<init>" "([BB)V")) ∈ tables_1 := wm (i := 20) rfl
theorem w_22 : (Cond.code (.mk "java/lang/String" "<init>" "([BB)V") jdk_42_method_151_code (3 : Nat) (Option.none : Option Jvm.ClassFile.FieldType)) ∈ tables_1 := wm (i := 22) rfl
theorem w_23 : (Cond.methodLink "java/lang/String" (1 : Nat) (.mk "java/lang/Object" "<init>" "()V")) ∈ tables_1 := wm (i := 23) rfl
theorem w_24 : (Cond.instanceMethod (.mk "java/lang/Object" "<init>" "()V")) ∈ tables_1 := wm (i := 24) rfl
theorem w_25 : (Cond.code (.mk "java/lang/Object" "<init>" "()V") object_method_1_code (1 : Nat) (Option.none : Option Jvm.ClassFile.FieldType)) ∈ tables_1 := wm (i := 25) rfl
theorem w_26 : (Cond.fieldLink "java/lang/String" (9 : Nat) "java/lang/String" "value" "[B") ∈ tables_1 := wm (i := 26) rfl
theorem w_27 : (Cond.laysFinal "java/lang/String" "java/lang/String" "value" "[B") ∈ tables_1 := wm (i := 27) rfl
theorem w_28 : (Cond.fieldLink "java/lang/String" (15 : Nat) "java/lang/String" "coder" "B") ∈ tables_1 := wm (i := 28) rfl
theorem w_29 : (Cond.laysFinal "java/lang/String" "java/lang/String" "coder" "B") ∈ tables_1 := wm (i := 29) rfl
theorem w_30 : (Cond.methodLink "com/example/same_answer/sameanswer/MediaTypeParameterPinLaw" (19 : Nat) (.mk "com/example/same_answer/sameanswer/MediaTypeParameterPinLaw" "ch" "(JI)C")) ∈ tables_1 := wm (i := 30) rfl
theorem w_31 : (Cond.static (.mk "com/example/same_answer/sameanswer/MediaTypeParameterPinLaw" "ch" "(JI)C")) ∈ tables_1 := wm (i := 31) rfl
theorem w_32 : (Cond.code (.mk "com/example/same_answer/sameanswer/MediaTypeParameterPinLaw" "ch" "(JI)C") method_3_code (3 : Nat) (Option.some Jvm.ClassFile.FieldType.char)) ∈ tables_1 := wm (i := 32) rfl
theorem w_33 : (Cond.constantLong "com/example/same_answer/sameanswer/MediaTypeParameterPinLaw" (51 : Nat) (255 : Int64)) ∈ tables_1 := wm (i := 33) rfl
theorem w_34 : (Cond.methodLink "com/example/same_answer/sameanswer/MediaTypeParameterPinLaw" (23 : Nat) (.mk "com/example/same_answer/sameanswer/MediaType" "parameter" "(Ljava/lang/String;Ljava/lang/String;)Ljava/lang/String;")) ∈ tables_1 := wm (i := 34) rfl
theorem w_35 : (Cond.static (.mk "com/example/same_answer/sameanswer/MediaType" "parameter" "(Ljava/lang/String;Ljava/lang/String;)Ljava/lang/String;")) ∈ tables_1 := wm (i := 35) rfl
theorem w_36 : (Cond.initialized "com/example/same_answer/sameanswer/MediaType") ∈ tables_1 := wm (i := 36) rfl
theorem w_37 : (Cond.code (.mk "com/example/same_answer/sameanswer/MediaType" "parameter" "(Ljava/lang/String;Ljava/lang/String;)Ljava/lang/String;") prog_10_method_3_code (8 : Nat) (Option.some (Jvm.ClassFile.FieldType.object "java/lang/String"))) ∈ tables_1 := wm (i := 37) rfl
theorem w_38 : (Cond.arrayClass Jvm.ClassFile.FieldType.char) ∈ tables_1 := wm (i := 38) rfl
theorem w_39 : (Cond.methodLink "com/example/same_answer/sameanswer/MediaTypeParameterPinLaw" (40 : Nat) (.mk "com/example/same_answer/sameanswer/MediaTypeParameterPinLaw" "noQuote" "(C)C")) ∈ tables_1 := wm (i := 39) rfl
theorem w_40 : (Cond.static (.mk "com/example/same_answer/sameanswer/MediaTypeParameterPinLaw" "noQuote" "(C)C")) ∈ tables_1 := wm (i := 40) rfl
theorem w_41 : (Cond.code (.mk "com/example/same_answer/sameanswer/MediaTypeParameterPinLaw" "noQuote" "(C)C") method_6_code (1 : Nat) (Option.some Jvm.ClassFile.FieldType.char)) ∈ tables_1 := wm (i := 41) rfl
theorem w_42 : (Cond.methodLink "com/example/same_answer/sameanswer/MediaTypeParameterPinLaw" (36 : Nat) (.mk "com/example/same_answer/sameanswer/MediaTypeParameterPinLaw" "noSemi" "(C)C")) ∈ tables_1 := wm (i := 42) rfl
theorem w_43 : (Cond.static (.mk "com/example/same_answer/sameanswer/MediaTypeParameterPinLaw" "noSemi" "(C)C")) ∈ tables_1 := wm (i := 43) rfl
theorem w_44 : (Cond.code (.mk "com/example/same_answer/sameanswer/MediaTypeParameterPinLaw" "noSemi" "(C)C") method_5_code (1 : Nat) (Option.some Jvm.ClassFile.FieldType.char)) ∈ tables_1 := wm (i := 44) rfl
theorem w_45 : (Cond.classLink "com/example/same_answer/sameanswer/MediaTypeParameterPinLaw" (14 : Nat) "java/lang/String") ∈ tables_1 := wm (i := 45) rfl
theorem w_46 : (Cond.methodLink "com/example/same_answer/sameanswer/MediaTypeParameterPinLaw" (29 : Nat) (.mk "java/lang/String" "<init>" "([C)V")) ∈ tables_1 := wm (i := 46) rfl
theorem w_47 : (Cond.instanceMethod (.mk "java/lang/String" "<init>" "([C)V")) ∈ tables_1 := wm (i := 47) rfl
theorem w_48 : (Cond.code (.mk "java/lang/String" "<init>" "([C)V") jdk_42_method_3_code (2 : Nat) (Option.none : Option Jvm.ClassFile.FieldType)) ∈ tables_1 := wm (i := 48) rfl
theorem w_62 : (Cond.methodLink "com/example/same_answer/sameanswer/MediaType" (9 : Nat) (.mk "java/lang/String" "indexOf" "(I)I")) ∈ tables_1 := wm (i := 62) rfl
theorem w_63 : (Cond.declares (.mk "java/lang/String" "indexOf" "(I)I")) ∈ tables_1 := wm (i := 63) rfl
theorem w_64 : (Cond.instanceMethod (.mk "java/lang/String" "indexOf" "(I)I")) ∈ tables_1 := wm (i := 64) rfl
theorem w_65 : (Cond.selects "java/lang/String" (.mk "java/lang/String" "indexOf" "(I)I") (.mk "java/lang/String" "indexOf" "(I)I")) ∈ tables_1 := wm (i := 65) rfl
theorem w_66 : (Cond.code (.mk "java/lang/String" "indexOf" "(I)I") jdk_42_method_79_code (2 : Nat) (Option.some Jvm.ClassFile.FieldType.int)) ∈ tables_1 := wm (i := 66) rfl
theorem w_67 : (Cond.methodLink "java/lang/String" (633 : Nat) (.mk "java/lang/String" "indexOf" "(II)I")) ∈ tables_1 := wm (i := 67) rfl
theorem w_68 : (Cond.declares (.mk "java/lang/String" "indexOf" "(II)I")) ∈ tables_1 := wm (i := 68) rfl
theorem w_69 : (Cond.instanceMethod (.mk "java/lang/String" "indexOf" "(II)I")) ∈ tables_1 := wm (i := 69) rfl
theorem w_70 : (Cond.selects "java/lang/String" (.mk "java/lang/String" "indexOf" "(II)I") (.mk "java/lang/String" "indexOf" "(II)I")) ∈ tables_1 := wm (i := 70) rfl
theorem w_71 : (Cond.code (.mk "java/lang/String" "indexOf" "(II)I") jdk_42_method_80_code (3 : Nat) (Option.some Jvm.ClassFile.FieldType.int)) ∈ tables_1 := wm (i := 71) rfl
theorem w_72 : (Cond.methodLink "java/lang/String" (492 : Nat) (.mk "java/lang/String" "isLatin1" "()Z")) ∈ tables_1 := wm (i := 72) rfl
theorem w_73 : (Cond.declares (.mk "java/lang/String" "isLatin1" "()Z")) ∈ tables_1 := wm (i := 73) rfl
theorem w_74 : (Cond.instanceMethod (.mk "java/lang/String" "isLatin1" "()Z")) ∈ tables_1 := wm (i := 74) rfl
theorem w_75 : (Cond.selects "java/lang/String" (.mk "java/lang/String" "isLatin1" "()Z") (.mk "java/lang/String" "isLatin1" "()Z")) ∈ tables_1 := wm (i := 75) rfl
theorem w_76 : (Cond.code (.mk "java/lang/String" "isLatin1" "()Z") jdk_42_method_154_code (1 : Nat) (Option.some Jvm.ClassFile.FieldType.boolean)) ∈ tables_1 := wm (i := 76) rfl
theorem w_77 : (Cond.methodLink "java/lang/String" (505 : Nat) (.mk "java/lang/String" "length" "()I")) ∈ tables_1 := wm (i := 77) rfl
theorem w_78 : (Cond.declares (.mk "java/lang/String" "length" "()I")) ∈ tables_1 := wm (i := 78) rfl
theorem w_79 : (Cond.instanceMethod (.mk "java/lang/String" "length" "()I")) ∈ tables_1 := wm (i := 79) rfl
theorem w_80 : (Cond.selects "java/lang/String" (.mk "java/lang/String" "length" "()I") (.mk "java/lang/String" "length" "()I")) ∈ tables_1 := wm (i := 80) rfl
theorem w_82 : (Cond.methodLink "java/lang/String" (335 : Nat) (.mk "java/lang/String" "coder" "()B")) ∈ tables_1 := wm (i := 82) rfl
theorem w_83 : (Cond.declares (.mk "java/lang/String" "coder" "()B")) ∈ tables_1 := wm (i := 83) rfl
theorem w_84 : (Cond.instanceMethod (.mk "java/lang/String" "coder" "()B")) ∈ tables_1 := wm (i := 84) rfl
theorem w_85 : (Cond.selects "java/lang/String" (.mk "java/lang/String" "coder" "()B") (.mk "java/lang/String" "coder" "()B")) ∈ tables_1 := wm (i := 85) rfl
theorem w_86 : (Cond.code (.mk "java/lang/String" "coder" "()B") jdk_42_method_152_code (1 : Nat) (Option.some Jvm.ClassFile.FieldType.byte)) ∈ tables_1 := wm (i := 86) rfl
theorem w_87 : (Cond.methodLink "java/lang/String" (637 : Nat) (.mk "java/lang/StringLatin1" "indexOf" "([BIII)I")) ∈ tables_1 := wm (i := 87) rfl
theorem w_88 : (Cond.static (.mk "java/lang/StringLatin1" "indexOf" "([BIII)I")) ∈ tables_1 := wm (i := 88) rfl
theorem w_89 : (Cond.code (.mk "java/lang/StringLatin1" "indexOf" "([BIII)I") jdk_43_method_22_code (4 : Nat) (Option.some Jvm.ClassFile.FieldType.int)) ∈ tables_1 := wm (i := 89) rfl
theorem w_90 : (Cond.methodLink "java/lang/StringLatin1" (88 : Nat) (.mk "java/lang/StringLatin1" "canEncode" "(I)Z")) ∈ tables_1 := wm (i := 90) rfl
theorem w_91 : (Cond.static (.mk "java/lang/StringLatin1" "canEncode" "(I)Z")) ∈ tables_1 := wm (i := 91) rfl
theorem w_92 : (Cond.code (.mk "java/lang/StringLatin1" "canEncode" "(I)Z") jdk_43_method_4_code (1 : Nat) (Option.some Jvm.ClassFile.FieldType.boolean)) ∈ tables_1 := wm (i := 92) rfl
theorem w_93 : (Cond.methodLink "java/lang/StringLatin1" (92 : Nat) (.mk "java/lang/Math" "max" "(II)I")) ∈ tables_1 := wm (i := 93) rfl
theorem w_94 : (Cond.static (.mk "java/lang/Math" "max" "(II)I")) ∈ tables_1 := wm (i := 94) rfl
theorem w_95 : (Cond.initialized "java/lang/Math") ∈ tables_1 := wm (i := 95) rfl
theorem w_96 : (Cond.code (.mk "java/lang/Math" "max" "(II)I") jdk_29_method_65_code (2 : Nat) (Option.some Jvm.ClassFile.FieldType.int)) ∈ tables_1 := wm (i := 96) rfl
theorem w_97 : (Cond.methodLink "java/lang/StringLatin1" (38 : Nat) (.mk "java/lang/Math" "min" "(II)I")) ∈ tables_1 := wm (i := 97) rfl
theorem w_98 : (Cond.static (.mk "java/lang/Math" "min" "(II)I")) ∈ tables_1 := wm (i := 98) rfl
theorem w_99 : (Cond.code (.mk "java/lang/Math" "min" "(II)I") jdk_29_method_69_code (2 : Nat) (Option.some Jvm.ClassFile.FieldType.int)) ∈ tables_1 := wm (i := 99) rfl
theorem w_100 : (Cond.methodLink "java/lang/StringLatin1" (95 : Nat) (.mk "java/lang/StringLatin1" "indexOfChar" "([BIII)I")) ∈ tables_1 := wm (i := 100) rfl
theorem w_101 : (Cond.static (.mk "java/lang/StringLatin1" "indexOfChar" "([BIII)I")) ∈ tables_1 := wm (i := 101) rfl
theorem w_102 : (Cond.code (.mk "java/lang/StringLatin1" "indexOfChar" "([BIII)I") jdk_43_method_23_code (6 : Nat) (Option.some Jvm.ClassFile.FieldType.int)) ∈ tables_1 := wm (i := 102) rfl
theorem w_103 : (Cond.methodLink "com/example/same_answer/sameanswer/MediaType" (33 : Nat) (.mk "java/lang/String" "indexOf" "(II)I")) ∈ tables_1 := wm (i := 103) rfl
theorem w_104 : (Cond.methodLink "com/example/same_answer/sameanswer/MediaType" (15 : Nat) (.mk "java/lang/String" "substring" "(II)Ljava/lang/String;")) ∈ tables_1 := wm (i := 104) rfl
theorem w_105 : (Cond.declares (.mk "java/lang/String" "substring" "(II)Ljava/lang/String;")) ∈ tables_1 := wm (i := 105) rfl
theorem w_106 : (Cond.instanceMethod (.mk "java/lang/String" "substring" "(II)Ljava/lang/String;")) ∈ tables_1 := wm (i := 106) rfl
theorem w_107 : (Cond.selects "java/lang/String" (.mk "java/lang/String" "substring" "(II)Ljava/lang/String;") (.mk "java/lang/String" "substring" "(II)Ljava/lang/String;")) ∈ tables_1 := wm (i := 107) rfl
theorem w_108 : (Cond.code (.mk "java/lang/String" "substring" "(II)Ljava/lang/String;") jdk_42_method_92_code (5 : Nat) (Option.some (Jvm.ClassFile.FieldType.object "java/lang/String"))) ∈ tables_1 := wm (i := 108) rfl
theorem w_109 : (Cond.methodLink "java/lang/String" (521 : Nat) (.mk "java/lang/String" "checkBoundsBeginEnd" "(III)V")) ∈ tables_1 := wm (i := 109) rfl
theorem w_110 : (Cond.static (.mk "java/lang/String" "checkBoundsBeginEnd" "(III)V")) ∈ tables_1 := wm (i := 110) rfl
theorem w_111 : (Cond.code (.mk "java/lang/String" "checkBoundsBeginEnd" "(III)V") jdk_42_method_158_code (3 : Nat) (Option.none : Option Jvm.ClassFile.FieldType)) ∈ tables_1 := wm (i := 111) rfl
theorem w_112 : (Cond.fieldLink "java/lang/String" (1053 : Nat) "jdk/internal/util/Preconditions" "SIOOBE_FORMATTER" "Ljava/util/function/BiFunction;") ∈ tables_1 := wm (i := 112) rfl
theorem w_113 : (Cond.initialized "jdk/internal/util/Preconditions") ∈ tables_1 := wm (i := 113) rfl
theorem w_114 : (Cond.methodLink "java/lang/String" (1062 : Nat) (.mk "jdk/internal/util/Preconditions" "checkFromToIndex" "(IIILjava/util/function/BiFunction;)I")) ∈ tables_1 := wm (i := 114) rfl
theorem w_115 : (Cond.static (.mk "jdk/internal/util/Preconditions" "checkFromToIndex" "(IIILjava/util/function/BiFunction;)I")) ∈ tables_1 := wm (i := 115) rfl
theorem w_116 : (Cond.code (.mk "jdk/internal/util/Preconditions" "checkFromToIndex" "(IIILjava/util/function/BiFunction;)I") jdk_41_method_12_code (4 : Nat) (Option.some Jvm.ClassFile.FieldType.int)) ∈ tables_1 := wm (i := 116) rfl
theorem w_117 : (Cond.methodLink "java/lang/String" (685 : Nat) (.mk "java/lang/StringLatin1" "newString" "([BII)Ljava/lang/String;")) ∈ tables_1 := wm (i := 117) rfl
theorem w_118 : (Cond.static (.mk "java/lang/StringLatin1" "newString" "([BII)Ljava/lang/String;")) ∈ tables_1 := wm (i := 118) rfl
theorem w_119 : (Cond.code (.mk "java/lang/StringLatin1" "newString" "([BII)Ljava/lang/String;") jdk_43_method_47_code (3 : Nat) (Option.some (Jvm.ClassFile.FieldType.object "java/lang/String"))) ∈ tables_1 := wm (i := 119) rfl
theorem w_120 : (Cond.classLink "java/lang/StringLatin1" (1 : Nat) "java/lang/String") ∈ tables_1 := wm (i := 120) rfl
theorem w_121 : (Cond.methodLink "java/lang/StringLatin1" (232 : Nat) (.mk "java/util/Arrays" "copyOfRange" "([BII)[B")) ∈ tables_1 := wm (i := 121) rfl
theorem w_122 : (Cond.static (.mk "java/util/Arrays" "copyOfRange" "([BII)[B")) ∈ tables_1 := wm (i := 122) rfl
theorem w_123 : (Cond.initialized "java/util/Arrays") ∈ tables_1 := wm (i := 123) rfl
theorem w_124 : (Cond.code (.mk "java/util/Arrays" "copyOfRange" "([BII)[B") jdk_65_method_132_code (3 : Nat) (Option.some (Jvm.ClassFile.FieldType.array Jvm.ClassFile.FieldType.byte))) ∈ tables_1 := wm (i := 124) rfl
theorem w_125 : (Cond.methodLink "java/util/Arrays" (339 : Nat) (.mk "java/util/Arrays" "copyOfRangeByte" "([BII)[B")) ∈ tables_1 := wm (i := 125) rfl
theorem w_126 : (Cond.static (.mk "java/util/Arrays" "copyOfRangeByte" "([BII)[B")) ∈ tables_1 := wm (i := 126) rfl
theorem w_127 : (Cond.code (.mk "java/util/Arrays" "copyOfRangeByte" "([BII)[B") jdk_65_method_133_code (5 : Nat) (Option.some (Jvm.ClassFile.FieldType.array Jvm.ClassFile.FieldType.byte))) ∈ tables_1 := wm (i := 127) rfl
theorem w_128 : (Cond.methodLink "java/util/Arrays" (343 : Nat) (.mk "java/util/Arrays" "checkLength" "(II)V")) ∈ tables_1 := wm (i := 128) rfl
theorem w_129 : (Cond.static (.mk "java/util/Arrays" "checkLength" "(II)V")) ∈ tables_1 := wm (i := 129) rfl
theorem w_130 : (Cond.code (.mk "java/util/Arrays" "checkLength" "(II)V") jdk_65_method_131_code (2 : Nat) (Option.none : Option Jvm.ClassFile.FieldType)) ∈ tables_1 := wm (i := 130) rfl
theorem w_131 : (Cond.methodLink "java/util/Arrays" (304 : Nat) (.mk "java/lang/Math" "min" "(II)I")) ∈ tables_1 := wm (i := 131) rfl
theorem w_132 : (Cond.methodLink "java/util/Arrays" (150 : Nat) (.mk "java/lang/System" "arraycopy" "(Ljava/lang/Object;ILjava/lang/Object;II)V")) ∈ tables_1 := wm (i := 132) rfl
theorem w_133 : (Cond.static (.mk "java/lang/System" "arraycopy" "(Ljava/lang/Object;ILjava/lang/Object;II)V")) ∈ tables_1 := wm (i := 133) rfl
theorem w_134 : (Cond.initialized "java/lang/System") ∈ tables_1 := wm (i := 134) rfl
theorem w_135 : (Cond.native (.mk "java/lang/System" "arraycopy" "(Ljava/lang/Object;ILjava/lang/Object;II)V")) ∈ tables_1 := wm (i := 135) rfl
theorem w_136 : (Cond.methodLink "java/lang/StringLatin1" (112 : Nat) (.mk "java/lang/String" "<init>" "([BB)V")) ∈ tables_1 := wm (i := 136) rfl
theorem w_137 : (Cond.methodLink "com/example/same_answer/sameanswer/MediaType" (19 : Nat) (.mk "java/lang/String" "trim" "()Ljava/lang/String;")) ∈ tables_1 := wm (i := 137) rfl
theorem w_138 : (Cond.declares (.mk "java/lang/String" "trim" "()Ljava/lang/String;")) ∈ tables_1 := wm (i := 138) rfl
theorem w_139 : (Cond.instanceMethod (.mk "java/lang/String" "trim" "()Ljava/lang/String;")) ∈ tables_1 := wm (i := 139) rfl
theorem w_140 : (Cond.selects "java/lang/String" (.mk "java/lang/String" "trim" "()Ljava/lang/String;") (.mk "java/lang/String" "trim" "()Ljava/lang/String;")) ∈ tables_1 := wm (i := 140) rfl
theorem w_141 : (Cond.code (.mk "java/lang/String" "trim" "()Ljava/lang/String;") jdk_42_method_113_code (2 : Nat) (Option.some (Jvm.ClassFile.FieldType.object "java/lang/String"))) ∈ tables_1 := wm (i := 141) rfl
theorem w_142 : (Cond.methodLink "java/lang/String" (859 : Nat) (.mk "java/lang/StringLatin1" "trim" "([B)Ljava/lang/String;")) ∈ tables_1 := wm (i := 142) rfl
theorem w_143 : (Cond.static (.mk "java/lang/StringLatin1" "trim" "([B)Ljava/lang/String;")) ∈ tables_1 := wm (i := 143) rfl
theorem w_144 : (Cond.code (.mk "java/lang/StringLatin1" "trim" "([B)Ljava/lang/String;") jdk_43_method_36_code (3 : Nat) (Option.some (Jvm.ClassFile.FieldType.object "java/lang/String"))) ∈ tables_1 := wm (i := 144) rfl
theorem w_145 : (Cond.methodLink "java/lang/StringLatin1" (210 : Nat) (.mk "java/lang/StringLatin1" "newString" "([BII)Ljava/lang/String;")) ∈ tables_1 := wm (i := 145) rfl
theorem w_146 : (Cond.methodLink "com/example/same_answer/sameanswer/MediaType" (36 : Nat) (.mk "java/lang/String" "length" "()I")) ∈ tables_1 := wm (i := 146) rfl
theorem w_147 : (Cond.methodLink "com/example/same_answer/sameanswer/MediaType" (40 : Nat) (.mk "java/lang/String" "charAt" "(I)C")) ∈ tables_1 := wm (i := 147) rfl
theorem w_148 : (Cond.declares (.mk "java/lang/String" "charAt" "(I)C")) ∈ tables_1 := wm (i := 148) rfl
theorem w_149 : (Cond.instanceMethod (.mk "java/lang/String" "charAt" "(I)C")) ∈ tables_1 := wm (i := 149) rfl
theorem w_150 : (Cond.selects "java/lang/String" (.mk "java/lang/String" "charAt" "(I)C") (.mk "java/lang/String" "charAt" "(I)C")) ∈ tables_1 := wm (i := 150) rfl
theorem w_161 : (Cond.methodLink "com/example/same_answer/sameanswer/MediaType" (44 : Nat) (.mk "java/lang/String" "equalsIgnoreCase" "(Ljava/lang/String;)Z")) ∈ tables_1 := wm (i := 161) rfl
theorem w_162 : (Cond.declares (.mk "java/lang/String" "equalsIgnoreCase" "(Ljava/lang/String;)Z")) ∈ tables_1 := wm (i := 162) rfl
theorem w_163 : (Cond.instanceMethod (.mk "java/lang/String" "equalsIgnoreCase" "(Ljava/lang/String;)Z")) ∈ tables_1 := wm (i := 163) rfl
theorem w_164 : (Cond.selects "java/lang/String" (.mk "java/lang/String" "equalsIgnoreCase" "(Ljava/lang/String;)Z") (.mk "java/lang/String" "equalsIgnoreCase" "(Ljava/lang/String;)Z")) ∈ tables_1 := wm (i := 164) rfl
theorem w_165 : (Cond.code (.mk "java/lang/String" "equalsIgnoreCase" "(Ljava/lang/String;)Z") jdk_42_method_70_code (2 : Nat) (Option.some Jvm.ClassFile.FieldType.boolean)) ∈ tables_1 := wm (i := 165) rfl
theorem w_166 : (Cond.methodLink "java/lang/String" (582 : Nat) (.mk "java/lang/String" "regionMatches" "(ZILjava/lang/String;II)Z")) ∈ tables_1 := wm (i := 166) rfl
theorem w_167 : (Cond.declares (.mk "java/lang/String" "regionMatches" "(ZILjava/lang/String;II)Z")) ∈ tables_1 := wm (i := 167) rfl
theorem w_168 : (Cond.instanceMethod (.mk "java/lang/String" "regionMatches" "(ZILjava/lang/String;II)Z")) ∈ tables_1 := wm (i := 168) rfl
theorem w_169 : (Cond.selects "java/lang/String" (.mk "java/lang/String" "regionMatches" "(ZILjava/lang/String;II)Z") (.mk "java/lang/String" "regionMatches" "(ZILjava/lang/String;II)Z")) ∈ tables_1 := wm (i := 169) rfl
theorem w_170 : (Cond.code (.mk "java/lang/String" "regionMatches" "(ZILjava/lang/String;II)Z") jdk_42_method_74_code (9 : Nat) (Option.some Jvm.ClassFile.FieldType.boolean)) ∈ tables_1 := wm (i := 170) rfl
theorem w_171 : (Cond.methodLink "java/lang/String" (613 : Nat) (.mk "java/lang/StringLatin1" "regionMatchesCI" "([BI[BII)Z")) ∈ tables_1 := wm (i := 171) rfl
theorem w_172 : (Cond.static (.mk "java/lang/StringLatin1" "regionMatchesCI" "([BI[BII)Z")) ∈ tables_1 := wm (i := 172) rfl
theorem w_173 : (Cond.code (.mk "java/lang/StringLatin1" "regionMatchesCI" "([BI[BII)Z") jdk_43_method_30_code (8 : Nat) (Option.some Jvm.ClassFile.FieldType.boolean)) ∈ tables_1 := wm (i := 173) rfl
theorem w_174 : (Cond.methodLink "java/lang/StringLatin1" (153 : Nat) (.mk "java/lang/CharacterDataLatin1" "equalsIgnoreCase" "(BB)Z")) ∈ tables_1 := wm (i := 174) rfl
theorem w_175 : (Cond.static (.mk "java/lang/CharacterDataLatin1" "equalsIgnoreCase" "(BB)Z")) ∈ tables_1 := wm (i := 175) rfl
theorem w_176 : (Cond.initialized "java/lang/CharacterDataLatin1") ∈ tables_1 := wm (i := 176) rfl
theorem w_177 : (Cond.code (.mk "java/lang/CharacterDataLatin1" "equalsIgnoreCase" "(BB)Z") jdk_116_method_22_code (3 : Nat) (Option.some Jvm.ClassFile.FieldType.boolean)) ∈ tables_1 := wm (i := 177) rfl
theorem w_178 : (Cond.methodLink "com/example/same_answer/sameanswer/MediaTypeParameterPinLaw" (47 : Nat) (.mk "com/example/same_answer/sameanswer/MediaTypeParameterPinLaw" "same" "(Ljava/lang/String;[CII)Z")) ∈ tables_1 := wm (i := 178) rfl
theorem w_179 : (Cond.static (.mk "com/example/same_answer/sameanswer/MediaTypeParameterPinLaw" "same" "(Ljava/lang/String;[CII)Z")) ∈ tables_1 := wm (i := 179) rfl
theorem w_180 : (Cond.code (.mk "com/example/same_answer/sameanswer/MediaTypeParameterPinLaw" "same" "(Ljava/lang/String;[CII)Z") method_10_code (5 : Nat) (Option.some Jvm.ClassFile.FieldType.boolean)) ∈ tables_1 := wm (i := 180) rfl
theorem w_181 : (Cond.methodLink "com/example/same_answer/sameanswer/MediaTypeParameterPinLaw" (66 : Nat) (.mk "java/lang/String" "length" "()I")) ∈ tables_1 := wm (i := 181) rfl
theorem w_182 : (Cond.methodLink "com/example/same_answer/sameanswer/MediaTypeParameterPinLaw" (70 : Nat) (.mk "java/lang/String" "charAt" "(I)C")) ∈ tables_1 := wm (i := 182) rfl
theorem w_183 : (Cond.methodLink "com/example/same_answer/sameanswer/MediaTypeParameterPinLaw" (43 : Nat) (.mk "com/example/same_answer/sameanswer/MediaTypeParameterPinLaw" "trimmed" "(Ljava/lang/String;[CI)Z")) ∈ tables_1 := wm (i := 183) rfl
theorem w_184 : (Cond.static (.mk "com/example/same_answer/sameanswer/MediaTypeParameterPinLaw" "trimmed" "(Ljava/lang/String;[CI)Z")) ∈ tables_1 := wm (i := 184) rfl
theorem w_185 : (Cond.code (.mk "com/example/same_answer/sameanswer/MediaTypeParameterPinLaw" "trimmed" "(Ljava/lang/String;[CI)Z") method_9_code (5 : Nat) (Option.some Jvm.ClassFile.FieldType.boolean)) ∈ tables_1 := wm (i := 185) rfl
theorem w_186 : (Cond.methodLink "com/example/same_answer/sameanswer/MediaTypeParameterPinLaw" (53 : Nat) (.mk "com/example/same_answer/sameanswer/MediaTypeParameterPinLaw" "lo4" "([CI)I")) ∈ tables_1 := wm (i := 186) rfl
theorem w_187 : (Cond.static (.mk "com/example/same_answer/sameanswer/MediaTypeParameterPinLaw" "lo4" "([CI)I")) ∈ tables_1 := wm (i := 187) rfl
theorem w_188 : (Cond.code (.mk "com/example/same_answer/sameanswer/MediaTypeParameterPinLaw" "lo4" "([CI)I") method_7_code (2 : Nat) (Option.some Jvm.ClassFile.FieldType.int)) ∈ tables_1 := wm (i := 188) rfl
theorem w_189 : (Cond.methodLink "com/example/same_answer/sameanswer/MediaTypeParameterPinLaw" (57 : Nat) (.mk "com/example/same_answer/sameanswer/MediaTypeParameterPinLaw" "hi4" "([CI)I")) ∈ tables_1 := wm (i := 189) rfl
theorem w_190 : (Cond.static (.mk "com/example/same_answer/sameanswer/MediaTypeParameterPinLaw" "hi4" "([CI)I")) ∈ tables_1 := wm (i := 190) rfl
theorem w_191 : (Cond.code (.mk "com/example/same_answer/sameanswer/MediaTypeParameterPinLaw" "hi4" "([CI)I") method_8_code (2 : Nat) (Option.some Jvm.ClassFile.FieldType.int)) ∈ tables_1 := wm (i := 191) rfl
theorem w_192 : (Cond.methodLink "com/example/same_answer/sameanswer/MediaTypeParameterPinLaw" (60 : Nat) (.mk "java/lang/Math" "max" "(II)I")) ∈ tables_1 := wm (i := 192) rfl
theorem w_193 : (Cond.stringLink "java/lang/StringLatin1" (151 : Nat) "") ∈ tables_1 := wm (i := 193) rfl
theorem w_196 : (Cond.methodLink "com/example/same_answer/sameanswer/MediaTypeParameterPinLaw" (32 : Nat) (.mk "java/lang/String" "isEmpty" "()Z")) ∈ tables_1 := wm (i := 196) rfl
theorem w_197 : (Cond.declares (.mk "java/lang/String" "isEmpty" "()Z")) ∈ tables_1 := wm (i := 197) rfl
theorem w_198 : (Cond.instanceMethod (.mk "java/lang/String" "isEmpty" "()Z")) ∈ tables_1 := wm (i := 198) rfl
theorem w_199 : (Cond.selects "java/lang/String" (.mk "java/lang/String" "isEmpty" "()Z") (.mk "java/lang/String" "isEmpty" "()Z")) ∈ tables_1 := wm (i := 199) rfl
theorem w_200 : (Cond.code (.mk "java/lang/String" "isEmpty" "()Z") jdk_42_method_55_code (1 : Nat) (Option.some Jvm.ClassFile.FieldType.boolean)) ∈ tables_1 := wm (i := 200) rfl
theorem d_jdk_42m154_0 : decode jdk_42_method_154_code 0 = .ok (.getstatic 38, 3) := by decide +kernel
theorem d_jdk_42m154_3 : decode jdk_42_method_154_code 3 = .ok (.ifCond .eq 14, 3) := by decide +kernel
theorem d_jdk_42m154_6 : decode jdk_42_method_154_code 6 = .ok (.aload_n 0, 1) := by decide +kernel
theorem d_jdk_42m154_7 : decode jdk_42_method_154_code 7 = .ok (.getfield 15, 3) := by decide +kernel
theorem d_jdk_42m154_10 : decode jdk_42_method_154_code 10 = .ok (.ifCond .ne 7, 3) := by decide +kernel
theorem d_jdk_42m154_13 : decode jdk_42_method_154_code 13 = .ok (.iconst 1, 1) := by decide +kernel
theorem d_jdk_42m154_14 : decode jdk_42_method_154_code 14 = .ok (.goto 4, 3) := by decide +kernel
theorem d_jdk_42m154_18 : decode jdk_42_method_154_code 18 = .ok (.ireturn, 1) := by decide +kernel
theorem d_jdk_43m4_0 : decode jdk_43_method_4_code 0 = .ok (.iload_n 0, 1) := by decide +kernel
theorem d_jdk_43m4_1 : decode jdk_43_method_4_code 1 = .ok (.ifCond .lt 14, 3) := by decide +kernel
theorem d_jdk_43m4_4 : decode jdk_43_method_4_code 4 = .ok (.iload_n 0, 1) := by decide +kernel
theorem d_jdk_43m4_5 : decode jdk_43_method_4_code 5 = .ok (.sipush 255, 3) := by decide +kernel
theorem d_jdk_43m4_8 : decode jdk_43_method_4_code 8 = .ok (.if_icmp .gt 7, 3) := by decide +kernel
theorem d_jdk_43m4_11 : decode jdk_43_method_4_code 11 = .ok (.iconst 1, 1) := by decide +kernel
theorem d_jdk_43m4_12 : decode jdk_43_method_4_code 12 = .ok (.goto 4, 3) := by decide +kernel
theorem d_jdk_43m4_16 : decode jdk_43_method_4_code 16 = .ok (.ireturn, 1) := by decide +kernel
theorem d_jdk_29m65_0 : decode jdk_29_method_65_code 0 = .ok (.iload_n 0, 1) := by decide +kernel
theorem d_jdk_29m65_1 : decode jdk_29_method_65_code 1 = .ok (.iload_n 1, 1) := by decide +kernel
theorem d_jdk_29m65_2 : decode jdk_29_method_65_code 2 = .ok (.if_icmp .lt 7, 3) := by decide +kernel
theorem d_jdk_29m65_5 : decode jdk_29_method_65_code 5 = .ok (.iload_n 0, 1) := by decide +kernel
theorem d_jdk_29m65_6 : decode jdk_29_method_65_code 6 = .ok (.goto 4, 3) := by decide +kernel
theorem d_jdk_29m65_10 : decode jdk_29_method_65_code 10 = .ok (.ireturn, 1) := by decide +kernel
theorem d_jdk_29m69_0 : decode jdk_29_method_69_code 0 = .ok (.iload_n 0, 1) := by decide +kernel
theorem d_jdk_29m69_1 : decode jdk_29_method_69_code 1 = .ok (.iload_n 1, 1) := by decide +kernel
theorem d_jdk_29m69_2 : decode jdk_29_method_69_code 2 = .ok (.if_icmp .gt 7, 3) := by decide +kernel
theorem d_jdk_29m69_5 : decode jdk_29_method_69_code 5 = .ok (.iload_n 0, 1) := by decide +kernel
theorem d_jdk_29m69_6 : decode jdk_29_method_69_code 6 = .ok (.goto 4, 3) := by decide +kernel
theorem d_jdk_29m69_10 : decode jdk_29_method_69_code 10 = .ok (.ireturn, 1) := by decide +kernel
theorem d_jdk_43m23_0 : decode jdk_43_method_23_code 0 = .ok (.iload_n 1, 1) := by decide +kernel
theorem d_jdk_43m23_1 : decode jdk_43_method_23_code 1 = .ok (.i2b, 1) := by decide +kernel
theorem d_jdk_43m23_2 : decode jdk_43_method_23_code 2 = .ok (.istore 4, 2) := by decide +kernel
theorem d_jdk_43m23_4 : decode jdk_43_method_23_code 4 = .ok (.iload_n 2, 1) := by decide +kernel
theorem d_jdk_43m23_5 : decode jdk_43_method_23_code 5 = .ok (.istore 5, 2) := by decide +kernel
theorem d_jdk_43m23_7 : decode jdk_43_method_23_code 7 = .ok (.iload 5, 2) := by decide +kernel
theorem d_jdk_43m23_9 : decode jdk_43_method_23_code 9 = .ok (.iload_n 3, 1) := by decide +kernel
theorem d_jdk_43m23_10 : decode jdk_43_method_23_code 10 = .ok (.if_icmp .ge 21, 3) := by decide +kernel
theorem d_jdk_43m23_31 : decode jdk_43_method_23_code 31 = .ok (.iconst (-1), 1) := by decide +kernel
theorem d_jdk_43m23_32 : decode jdk_43_method_23_code 32 = .ok (.ireturn, 1) := by decide +kernel
theorem d_jdk_43m23_13 : decode jdk_43_method_23_code 13 = .ok (.aload_n 0, 1) := by decide +kernel
theorem d_jdk_43m23_14 : decode jdk_43_method_23_code 14 = .ok (.iload 5, 2) := by decide +kernel
theorem d_jdk_43m23_16 : decode jdk_43_method_23_code 16 = .ok (.baload, 1) := by decide +kernel
theorem d_jdk_43m23_17 : decode jdk_43_method_23_code 17 = .ok (.iload 4, 2) := by decide +kernel
theorem d_jdk_43m23_19 : decode jdk_43_method_23_code 19 = .ok (.if_icmp .ne 6, 3) := by decide +kernel
theorem d_jdk_43m23_22 : decode jdk_43_method_23_code 22 = .ok (.iload 5, 2) := by decide +kernel
theorem d_jdk_43m23_24 : decode jdk_43_method_23_code 24 = .ok (.ireturn, 1) := by decide +kernel
theorem d_jdk_43m23_25 : decode jdk_43_method_23_code 25 = .ok (.iinc 5 1, 3) := by decide +kernel
theorem d_jdk_43m23_28 : decode jdk_43_method_23_code 28 = .ok (.goto (-21), 3) := by decide +kernel
theorem d_jdk_43m22_0 : decode jdk_43_method_22_code 0 = .ok (.iload_n 1, 1) := by decide +kernel
theorem d_jdk_43m22_1 : decode jdk_43_method_22_code 1 = .ok (.invokestatic 88, 3) := by decide +kernel
theorem d_jdk_43m22_4 : decode jdk_43_method_22_code 4 = .ok (.ifCond .ne 5, 3) := by decide +kernel
theorem d_jdk_43m22_9 : decode jdk_43_method_22_code 9 = .ok (.iload_n 2, 1) := by decide +kernel
theorem d_jdk_43m22_10 : decode jdk_43_method_22_code 10 = .ok (.iconst 0, 1) := by decide +kernel
theorem d_jdk_43m22_11 : decode jdk_43_method_22_code 11 = .ok (.invokestatic 92, 3) := by decide +kernel
theorem d_jdk_43m22_14 : decode jdk_43_method_22_code 14 = .ok (.istore_n 2, 1) := by decide +kernel
theorem d_jdk_43m22_15 : decode jdk_43_method_22_code 15 = .ok (.iload_n 3, 1) := by decide +kernel
theorem d_jdk_43m22_16 : decode jdk_43_method_22_code 16 = .ok (.aload_n 0, 1) := by decide +kernel
theorem d_jdk_43m22_17 : decode jdk_43_method_22_code 17 = .ok (.arraylength, 1) := by decide +kernel
theorem d_jdk_43m22_18 : decode jdk_43_method_22_code 18 = .ok (.invokestatic 38, 3) := by decide +kernel
theorem d_jdk_43m22_21 : decode jdk_43_method_22_code 21 = .ok (.istore_n 3, 1) := by decide +kernel
theorem d_jdk_43m22_22 : decode jdk_43_method_22_code 22 = .ok (.iload_n 2, 1) := by decide +kernel
theorem d_jdk_43m22_23 : decode jdk_43_method_22_code 23 = .ok (.iload_n 3, 1) := by decide +kernel
theorem d_jdk_43m22_24 : decode jdk_43_method_22_code 24 = .ok (.if_icmp .lt 5, 3) := by decide +kernel
theorem d_jdk_43m22_29 : decode jdk_43_method_22_code 29 = .ok (.aload_n 0, 1) := by decide +kernel
theorem d_jdk_43m22_30 : decode jdk_43_method_22_code 30 = .ok (.iload_n 1, 1) := by decide +kernel
theorem d_jdk_43m22_31 : decode jdk_43_method_22_code 31 = .ok (.iload_n 2, 1) := by decide +kernel
theorem d_jdk_43m22_32 : decode jdk_43_method_22_code 32 = .ok (.iload_n 3, 1) := by decide +kernel
theorem d_jdk_43m22_33 : decode jdk_43_method_22_code 33 = .ok (.invokestatic 95, 3) := by decide +kernel
theorem d_jdk_43m22_36 : decode jdk_43_method_22_code 36 = .ok (.ireturn, 1) := by decide +kernel
theorem d_jdk_43m22_27 : decode jdk_43_method_22_code 27 = .ok (.iconst (-1), 1) := by decide +kernel
theorem d_jdk_43m22_28 : decode jdk_43_method_22_code 28 = .ok (.ireturn, 1) := by decide +kernel
theorem d_jdk_42m80_0 : decode jdk_42_method_80_code 0 = .ok (.aload_n 0, 1) := by decide +kernel
theorem d_jdk_42m80_1 : decode jdk_42_method_80_code 1 = .ok (.invokevirtual 492, 3) := by decide +kernel
theorem d_jdk_42m80_4 : decode jdk_42_method_80_code 4 = .ok (.ifCond .eq 19, 3) := by decide +kernel
theorem d_jdk_42m80_7 : decode jdk_42_method_80_code 7 = .ok (.aload_n 0, 1) := by decide +kernel
theorem d_jdk_42m80_8 : decode jdk_42_method_80_code 8 = .ok (.getfield 9, 3) := by decide +kernel
theorem d_jdk_42m80_11 : decode jdk_42_method_80_code 11 = .ok (.iload_n 1, 1) := by decide +kernel
theorem d_jdk_42m80_12 : decode jdk_42_method_80_code 12 = .ok (.iload_n 2, 1) := by decide +kernel
theorem d_jdk_42m80_13 : decode jdk_42_method_80_code 13 = .ok (.aload_n 0, 1) := by decide +kernel
theorem d_jdk_42m80_14 : decode jdk_42_method_80_code 14 = .ok (.invokevirtual 505, 3) := by decide +kernel
theorem d_jdk_42m80_17 : decode jdk_42_method_80_code 17 = .ok (.invokestatic 637, 3) := by decide +kernel
theorem d_jdk_42m80_20 : decode jdk_42_method_80_code 20 = .ok (.goto 16, 3) := by decide +kernel
theorem d_jdk_42m80_36 : decode jdk_42_method_80_code 36 = .ok (.ireturn, 1) := by decide +kernel
theorem d_jdk_42m79_0 : decode jdk_42_method_79_code 0 = .ok (.aload_n 0, 1) := by decide +kernel
theorem d_jdk_42m79_1 : decode jdk_42_method_79_code 1 = .ok (.iload_n 1, 1) := by decide +kernel
theorem d_jdk_42m79_2 : decode jdk_42_method_79_code 2 = .ok (.iconst 0, 1) := by decide +kernel
theorem d_jdk_42m79_3 : decode jdk_42_method_79_code 3 = .ok (.invokevirtual 633, 3) := by decide +kernel
theorem d_jdk_42m79_6 : decode jdk_42_method_79_code 6 = .ok (.ireturn, 1) := by decide +kernel
theorem d_jdk_65m131_0 : decode jdk_65_method_131_code 0 = .ok (.iload_n 1, 1) := by decide +kernel
theorem d_jdk_65m131_1 : decode jdk_65_method_131_code 1 = .ok (.iload_n 0, 1) := by decide +kernel
theorem d_jdk_65m131_2 : decode jdk_65_method_131_code 2 = .ok (.if_icmp .ge 35, 3) := by decide +kernel
theorem d_jdk_65m131_37 : decode jdk_65_method_131_code 37 = .ok (.return_, 1) := by decide +kernel
theorem d_jdk_29m69_9 : decode jdk_29_method_69_code 9 = .ok (.iload_n 1, 1) := by decide +kernel
theorem d_jdk_65m133_0 : decode jdk_65_method_133_code 0 = .ok (.iload_n 1, 1) := by decide +kernel
theorem d_jdk_65m133_1 : decode jdk_65_method_133_code 1 = .ok (.iload_n 2, 1) := by decide +kernel
theorem d_jdk_65m133_2 : decode jdk_65_method_133_code 2 = .ok (.invokestatic 343, 3) := by decide +kernel
theorem d_jdk_65m133_5 : decode jdk_65_method_133_code 5 = .ok (.iload_n 2, 1) := by decide +kernel
theorem d_jdk_65m133_6 : decode jdk_65_method_133_code 6 = .ok (.iload_n 1, 1) := by decide +kernel
theorem d_jdk_65m133_7 : decode jdk_65_method_133_code 7 = .ok (.isub, 1) := by decide +kernel
theorem d_jdk_65m133_8 : decode jdk_65_method_133_code 8 = .ok (.istore_n 3, 1) := by decide +kernel
theorem d_jdk_65m133_9 : decode jdk_65_method_133_code 9 = .ok (.iload_n 3, 1) := by decide +kernel
theorem d_jdk_65m133_10 : decode jdk_65_method_133_code 10 = .ok (.newarray .byte, 2) := by decide +kernel
theorem d_jdk_65m133_12 : decode jdk_65_method_133_code 12 = .ok (.astore 4, 2) := by decide +kernel
theorem d_jdk_65m133_14 : decode jdk_65_method_133_code 14 = .ok (.aload_n 0, 1) := by decide +kernel
theorem d_jdk_65m133_15 : decode jdk_65_method_133_code 15 = .ok (.iload_n 1, 1) := by decide +kernel
theorem d_jdk_65m133_16 : decode jdk_65_method_133_code 16 = .ok (.aload 4, 2) := by decide +kernel
theorem d_jdk_65m133_18 : decode jdk_65_method_133_code 18 = .ok (.iconst 0, 1) := by decide +kernel
theorem d_jdk_65m133_19 : decode jdk_65_method_133_code 19 = .ok (.aload_n 0, 1) := by decide +kernel
theorem d_jdk_65m133_20 : decode jdk_65_method_133_code 20 = .ok (.arraylength, 1) := by decide +kernel
theorem d_jdk_65m133_21 : decode jdk_65_method_133_code 21 = .ok (.iload_n 1, 1) := by decide +kernel
theorem d_jdk_65m133_22 : decode jdk_65_method_133_code 22 = .ok (.isub, 1) := by decide +kernel
theorem d_jdk_65m133_23 : decode jdk_65_method_133_code 23 = .ok (.iload_n 3, 1) := by decide +kernel
theorem d_jdk_65m133_24 : decode jdk_65_method_133_code 24 = .ok (.invokestatic 304, 3) := by decide +kernel
theorem d_jdk_65m133_27 : decode jdk_65_method_133_code 27 = .ok (.invokestatic 150, 3) := by decide +kernel
theorem d_jdk_65m133_30 : decode jdk_65_method_133_code 30 = .ok (.aload 4, 2) := by decide +kernel
theorem d_jdk_65m133_32 : decode jdk_65_method_133_code 32 = .ok (.areturn, 1) := by decide +kernel
theorem d_jdk_65m132_0 : decode jdk_65_method_132_code 0 = .ok (.iload_n 1, 1) := by decide +kernel
theorem d_jdk_65m132_1 : decode jdk_65_method_132_code 1 = .ok (.ifCond .ne 9, 3) := by decide +kernel
theorem d_jdk_65m132_4 : decode jdk_65_method_132_code 4 = .ok (.iload_n 2, 1) := by decide +kernel
theorem d_jdk_65m132_5 : decode jdk_65_method_132_code 5 = .ok (.aload_n 0, 1) := by decide +kernel
theorem d_jdk_65m132_6 : decode jdk_65_method_132_code 6 = .ok (.arraylength, 1) := by decide +kernel
theorem d_jdk_65m132_7 : decode jdk_65_method_132_code 7 = .ok (.if_icmp .eq 10, 3) := by decide +kernel
theorem d_jdk_65m132_10 : decode jdk_65_method_132_code 10 = .ok (.aload_n 0, 1) := by decide +kernel
theorem d_jdk_65m132_11 : decode jdk_65_method_132_code 11 = .ok (.iload_n 1, 1) := by decide +kernel
theorem d_jdk_65m132_12 : decode jdk_65_method_132_code 12 = .ok (.iload_n 2, 1) := by decide +kernel
theorem d_jdk_65m132_13 : decode jdk_65_method_132_code 13 = .ok (.invokestatic 339, 3) := by decide +kernel
theorem d_jdk_65m132_16 : decode jdk_65_method_132_code 16 = .ok (.areturn, 1) := by decide +kernel
theorem d_jdk_42m151_0 : decode jdk_42_method_151_code 0 = .ok (.aload_n 0, 1) := by decide +kernel
theorem d_jdk_42m151_1 : decode jdk_42_method_151_code 1 = .ok (.invokespecial 1, 3) := by decide +kernel
theorem d_jdk_42m151_4 : decode jdk_42_method_151_code 4 = .ok (.aload_n 0, 1) := by decide +kernel
theorem d_jdk_42m151_5 : decode jdk_42_method_151_code 5 = .ok (.aload_n 1, 1) := by decide +kernel
theorem d_jdk_42m151_6 : decode jdk_42_method_151_code 6 = .ok (.putfield 9, 3) := by decide +kernel
theorem d_jdk_42m151_9 : decode jdk_42_method_151_code 9 = .ok (.aload_n 0, 1) := by decide +kernel
theorem d_jdk_42m151_10 : decode jdk_42_method_151_code 10 = .ok (.iload_n 2, 1) := by decide +kernel
theorem d_jdk_42m151_11 : decode jdk_42_method_151_code 11 = .ok (.putfield 15, 3) := by decide +kernel
theorem d_jdk_42m151_14 : decode jdk_42_method_151_code 14 = .ok (.return_, 1) := by decide +kernel
theorem d_jdk_43m47_0 : decode jdk_43_method_47_code 0 = .ok (.iload_n 2, 1) := by decide +kernel
theorem d_jdk_43m47_1 : decode jdk_43_method_47_code 1 = .ok (.ifCond .ne 6, 3) := by decide +kernel
theorem d_jdk_43m47_7 : decode jdk_43_method_47_code 7 = .ok (.new 1, 3) := by decide +kernel
theorem d_jdk_43m47_10 : decode jdk_43_method_47_code 10 = .ok (.dup, 1) := by decide +kernel
theorem d_jdk_43m47_11 : decode jdk_43_method_47_code 11 = .ok (.aload_n 0, 1) := by decide +kernel
theorem d_jdk_43m47_12 : decode jdk_43_method_47_code 12 = .ok (.iload_n 1, 1) := by decide +kernel
theorem d_jdk_43m47_13 : decode jdk_43_method_47_code 13 = .ok (.iload_n 1, 1) := by decide +kernel
theorem d_jdk_43m47_14 : decode jdk_43_method_47_code 14 = .ok (.iload_n 2, 1) := by decide +kernel
theorem d_jdk_43m47_15 : decode jdk_43_method_47_code 15 = .ok (.iadd, 1) := by decide +kernel
theorem d_jdk_43m47_16 : decode jdk_43_method_47_code 16 = .ok (.invokestatic 232, 3) := by decide +kernel
theorem d_jdk_43m47_19 : decode jdk_43_method_47_code 19 = .ok (.iconst 0, 1) := by decide +kernel
theorem d_jdk_43m47_20 : decode jdk_43_method_47_code 20 = .ok (.invokespecial 112, 3) := by decide +kernel
theorem d_jdk_43m47_23 : decode jdk_43_method_47_code 23 = .ok (.areturn, 1) := by decide +kernel
theorem d_jdk_41m12_0 : decode jdk_41_method_12_code 0 = .ok (.iload_n 0, 1) := by decide +kernel
theorem d_jdk_41m12_1 : decode jdk_41_method_12_code 1 = .ok (.ifCond .lt 13, 3) := by decide +kernel
theorem d_jdk_41m12_4 : decode jdk_41_method_12_code 4 = .ok (.iload_n 0, 1) := by decide +kernel
theorem d_jdk_41m12_5 : decode jdk_41_method_12_code 5 = .ok (.iload_n 1, 1) := by decide +kernel
theorem d_jdk_41m12_6 : decode jdk_41_method_12_code 6 = .ok (.if_icmp .gt 8, 3) := by decide +kernel
theorem d_jdk_41m12_9 : decode jdk_41_method_12_code 9 = .ok (.iload_n 1, 1) := by decide +kernel
theorem d_jdk_41m12_10 : decode jdk_41_method_12_code 10 = .ok (.iload_n 2, 1) := by decide +kernel
theorem d_jdk_41m12_11 : decode jdk_41_method_12_code 11 = .ok (.if_icmp .le 11, 3) := by decide +kernel
theorem d_jdk_41m12_22 : decode jdk_41_method_12_code 22 = .ok (.iload_n 0, 1) := by decide +kernel
theorem d_jdk_41m12_23 : decode jdk_41_method_12_code 23 = .ok (.ireturn, 1) := by decide +kernel
theorem d_jdk_42m158_0 : decode jdk_42_method_158_code 0 = .ok (.iload_n 0, 1) := by decide +kernel
theorem d_jdk_42m158_1 : decode jdk_42_method_158_code 1 = .ok (.iload_n 1, 1) := by decide +kernel
theorem d_jdk_42m158_2 : decode jdk_42_method_158_code 2 = .ok (.iload_n 2, 1) := by decide +kernel
theorem d_jdk_42m158_3 : decode jdk_42_method_158_code 3 = .ok (.getstatic 1053, 3) := by decide +kernel
theorem d_jdk_42m158_6 : decode jdk_42_method_158_code 6 = .ok (.invokestatic 1062, 3) := by decide +kernel
theorem d_jdk_42m158_9 : decode jdk_42_method_158_code 9 = .ok (.pop, 1) := by decide +kernel
theorem d_jdk_42m158_10 : decode jdk_42_method_158_code 10 = .ok (.return_, 1) := by decide +kernel
theorem d_jdk_42m92_0 : decode jdk_42_method_92_code 0 = .ok (.aload_n 0, 1) := by decide +kernel
theorem d_jdk_42m92_1 : decode jdk_42_method_92_code 1 = .ok (.invokevirtual 505, 3) := by decide +kernel
theorem d_jdk_42m92_4 : decode jdk_42_method_92_code 4 = .ok (.istore_n 3, 1) := by decide +kernel
theorem d_jdk_42m92_5 : decode jdk_42_method_92_code 5 = .ok (.iload_n 1, 1) := by decide +kernel
theorem d_jdk_42m92_6 : decode jdk_42_method_92_code 6 = .ok (.iload_n 2, 1) := by decide +kernel
theorem d_jdk_42m92_7 : decode jdk_42_method_92_code 7 = .ok (.iload_n 3, 1) := by decide +kernel
theorem d_jdk_42m92_8 : decode jdk_42_method_92_code 8 = .ok (.invokestatic 521, 3) := by decide +kernel
theorem d_jdk_42m92_11 : decode jdk_42_method_92_code 11 = .ok (.iload_n 1, 1) := by decide +kernel
theorem d_jdk_42m92_12 : decode jdk_42_method_92_code 12 = .ok (.ifCond .ne 10, 3) := by decide +kernel
theorem d_jdk_42m92_22 : decode jdk_42_method_92_code 22 = .ok (.iload_n 2, 1) := by decide +kernel
theorem d_jdk_42m92_23 : decode jdk_42_method_92_code 23 = .ok (.iload_n 1, 1) := by decide +kernel
theorem d_jdk_42m92_24 : decode jdk_42_method_92_code 24 = .ok (.isub, 1) := by decide +kernel
theorem d_jdk_42m92_25 : decode jdk_42_method_92_code 25 = .ok (.istore 4, 2) := by decide +kernel
theorem d_jdk_42m92_27 : decode jdk_42_method_92_code 27 = .ok (.aload_n 0, 1) := by decide +kernel
theorem d_jdk_42m92_28 : decode jdk_42_method_92_code 28 = .ok (.invokevirtual 492, 3) := by decide +kernel
theorem d_jdk_42m92_31 : decode jdk_42_method_92_code 31 = .ok (.ifCond .eq 16, 3) := by decide +kernel
theorem d_jdk_42m92_34 : decode jdk_42_method_92_code 34 = .ok (.aload_n 0, 1) := by decide +kernel
theorem d_jdk_42m92_35 : decode jdk_42_method_92_code 35 = .ok (.getfield 9, 3) := by decide +kernel
theorem d_jdk_42m92_38 : decode jdk_42_method_92_code 38 = .ok (.iload_n 1, 1) := by decide +kernel
theorem d_jdk_42m92_39 : decode jdk_42_method_92_code 39 = .ok (.iload 4, 2) := by decide +kernel
theorem d_jdk_42m92_41 : decode jdk_42_method_92_code 41 = .ok (.invokestatic 685, 3) := by decide +kernel
theorem d_jdk_42m92_44 : decode jdk_42_method_92_code 44 = .ok (.goto 13, 3) := by decide +kernel
theorem d_jdk_42m92_57 : decode jdk_42_method_92_code 57 = .ok (.areturn, 1) := by decide +kernel
theorem d_jdk_43m47_4 : decode jdk_43_method_47_code 4 = .ok (.ldc 151, 2) := by decide +kernel
theorem d_jdk_43m47_6 : decode jdk_43_method_47_code 6 = .ok (.areturn, 1) := by decide +kernel
theorem d_jdk_43m36_0 : decode jdk_43_method_36_code 0 = .ok (.aload_n 0, 1) := by decide +kernel
theorem d_jdk_43m36_1 : decode jdk_43_method_36_code 1 = .ok (.arraylength, 1) := by decide +kernel
theorem d_jdk_43m36_2 : decode jdk_43_method_36_code 2 = .ok (.istore_n 1, 1) := by decide +kernel
theorem d_jdk_43m36_3 : decode jdk_43_method_36_code 3 = .ok (.iconst 0, 1) := by decide +kernel
theorem d_jdk_43m36_4 : decode jdk_43_method_36_code 4 = .ok (.istore_n 2, 1) := by decide +kernel
theorem d_jdk_43m36_5 : decode jdk_43_method_36_code 5 = .ok (.iload_n 2, 1) := by decide +kernel
theorem d_jdk_43m36_6 : decode jdk_43_method_36_code 6 = .ok (.iload_n 1, 1) := by decide +kernel
theorem d_jdk_43m36_7 : decode jdk_43_method_36_code 7 = .ok (.if_icmp .ge 21, 3) := by decide +kernel
theorem d_jdk_43m36_10 : decode jdk_43_method_36_code 10 = .ok (.aload_n 0, 1) := by decide +kernel
theorem d_jdk_43m36_11 : decode jdk_43_method_36_code 11 = .ok (.iload_n 2, 1) := by decide +kernel
theorem d_jdk_43m36_12 : decode jdk_43_method_36_code 12 = .ok (.baload, 1) := by decide +kernel
theorem d_jdk_43m36_13 : decode jdk_43_method_36_code 13 = .ok (.sipush 255, 3) := by decide +kernel
theorem d_jdk_43m36_16 : decode jdk_43_method_36_code 16 = .ok (.iand, 1) := by decide +kernel
theorem d_jdk_43m36_17 : decode jdk_43_method_36_code 17 = .ok (.bipush 32, 2) := by decide +kernel
theorem d_jdk_43m36_19 : decode jdk_43_method_36_code 19 = .ok (.if_icmp .gt 9, 3) := by decide +kernel
theorem d_jdk_43m36_22 : decode jdk_43_method_36_code 22 = .ok (.iinc 2 1, 3) := by decide +kernel
theorem d_jdk_43m36_25 : decode jdk_43_method_36_code 25 = .ok (.goto (-20), 3) := by decide +kernel
theorem d_jdk_43m36_28 : decode jdk_43_method_36_code 28 = .ok (.iload_n 2, 1) := by decide +kernel
theorem d_jdk_43m36_29 : decode jdk_43_method_36_code 29 = .ok (.iload_n 1, 1) := by decide +kernel
theorem d_jdk_43m36_30 : decode jdk_43_method_36_code 30 = .ok (.if_icmp .ge 23, 3) := by decide +kernel
theorem d_jdk_43m36_33 : decode jdk_43_method_36_code 33 = .ok (.aload_n 0, 1) := by decide +kernel
theorem d_jdk_43m36_34 : decode jdk_43_method_36_code 34 = .ok (.iload_n 1, 1) := by decide +kernel
theorem d_jdk_43m36_35 : decode jdk_43_method_36_code 35 = .ok (.iconst 1, 1) := by decide +kernel
theorem d_jdk_43m36_36 : decode jdk_43_method_36_code 36 = .ok (.isub, 1) := by decide +kernel
theorem d_jdk_43m36_37 : decode jdk_43_method_36_code 37 = .ok (.baload, 1) := by decide +kernel
theorem d_jdk_43m36_38 : decode jdk_43_method_36_code 38 = .ok (.sipush 255, 3) := by decide +kernel
theorem d_jdk_43m36_41 : decode jdk_43_method_36_code 41 = .ok (.iand, 1) := by decide +kernel
theorem d_jdk_43m36_42 : decode jdk_43_method_36_code 42 = .ok (.bipush 32, 2) := by decide +kernel
theorem d_jdk_43m36_44 : decode jdk_43_method_36_code 44 = .ok (.if_icmp .gt 9, 3) := by decide +kernel
theorem d_jdk_43m36_47 : decode jdk_43_method_36_code 47 = .ok (.iinc 1 (-1), 3) := by decide +kernel
theorem d_jdk_43m36_50 : decode jdk_43_method_36_code 50 = .ok (.goto (-22), 3) := by decide +kernel
theorem d_jdk_43m36_53 : decode jdk_43_method_36_code 53 = .ok (.iload_n 2, 1) := by decide +kernel
theorem d_jdk_43m36_54 : decode jdk_43_method_36_code 54 = .ok (.ifCond .gt 9, 3) := by decide +kernel
theorem d_jdk_43m36_63 : decode jdk_43_method_36_code 63 = .ok (.aload_n 0, 1) := by decide +kernel
theorem d_jdk_43m36_64 : decode jdk_43_method_36_code 64 = .ok (.iload_n 2, 1) := by decide +kernel
theorem d_jdk_43m36_65 : decode jdk_43_method_36_code 65 = .ok (.iload_n 1, 1) := by decide +kernel
theorem d_jdk_43m36_66 : decode jdk_43_method_36_code 66 = .ok (.iload_n 2, 1) := by decide +kernel
theorem d_jdk_43m36_67 : decode jdk_43_method_36_code 67 = .ok (.isub, 1) := by decide +kernel
theorem d_jdk_43m36_68 : decode jdk_43_method_36_code 68 = .ok (.invokestatic 210, 3) := by decide +kernel
theorem d_jdk_43m36_71 : decode jdk_43_method_36_code 71 = .ok (.goto 4, 3) := by decide +kernel
theorem d_jdk_43m36_75 : decode jdk_43_method_36_code 75 = .ok (.areturn, 1) := by decide +kernel
theorem d_jdk_42m113_0 : decode jdk_42_method_113_code 0 = .ok (.aload_n 0, 1) := by decide +kernel
theorem d_jdk_42m113_1 : decode jdk_42_method_113_code 1 = .ok (.invokevirtual 492, 3) := by decide +kernel
theorem d_jdk_42m113_4 : decode jdk_42_method_113_code 4 = .ok (.ifCond .eq 13, 3) := by decide +kernel
theorem d_jdk_42m113_7 : decode jdk_42_method_113_code 7 = .ok (.aload_n 0, 1) := by decide +kernel
theorem d_jdk_42m113_8 : decode jdk_42_method_113_code 8 = .ok (.getfield 9, 3) := by decide +kernel
theorem d_jdk_42m113_11 : decode jdk_42_method_113_code 11 = .ok (.invokestatic 859, 3) := by decide +kernel
theorem d_jdk_42m113_14 : decode jdk_42_method_113_code 14 = .ok (.goto 10, 3) := by decide +kernel
theorem d_jdk_42m113_24 : decode jdk_42_method_113_code 24 = .ok (.astore_n 1, 1) := by decide +kernel
theorem d_jdk_42m113_25 : decode jdk_42_method_113_code 25 = .ok (.aload_n 1, 1) := by decide +kernel
theorem d_jdk_42m113_26 : decode jdk_42_method_113_code 26 = .ok (.ifnonnull 7, 3) := by decide +kernel
theorem d_jdk_42m113_33 : decode jdk_42_method_113_code 33 = .ok (.aload_n 1, 1) := by decide +kernel
theorem d_jdk_42m113_34 : decode jdk_42_method_113_code 34 = .ok (.areturn, 1) := by decide +kernel
theorem d_jdk_43m36_57 : decode jdk_43_method_36_code 57 = .ok (.iload_n 1, 1) := by decide +kernel
theorem d_jdk_43m36_58 : decode jdk_43_method_36_code 58 = .ok (.aload_n 0, 1) := by decide +kernel
theorem d_jdk_43m36_59 : decode jdk_43_method_36_code 59 = .ok (.arraylength, 1) := by decide +kernel
theorem d_jdk_43m36_60 : decode jdk_43_method_36_code 60 = .ok (.if_icmp .ge 14, 3) := by decide +kernel
theorem d_jdk_43m36_74 : decode jdk_43_method_36_code 74 = .ok (.aconst_null, 1) := by decide +kernel
theorem d_jdk_42m113_29 : decode jdk_42_method_113_code 29 = .ok (.aload_n 0, 1) := by decide +kernel
theorem d_jdk_42m113_30 : decode jdk_42_method_113_code 30 = .ok (.goto 4, 3) := by decide +kernel
theorem d_jdk_116m22_0 : decode jdk_116_method_22_code 0 = .ok (.iload_n 0, 1) := by decide +kernel
theorem d_jdk_116m22_1 : decode jdk_116_method_22_code 1 = .ok (.iload_n 1, 1) := by decide +kernel
theorem d_jdk_116m22_2 : decode jdk_116_method_22_code 2 = .ok (.if_icmp .ne 5, 3) := by decide +kernel
theorem d_jdk_116m22_5 : decode jdk_116_method_22_code 5 = .ok (.iconst 1, 1) := by decide +kernel
theorem d_jdk_116m22_6 : decode jdk_116_method_22_code 6 = .ok (.ireturn, 1) := by decide +kernel
theorem d_jdk_116m22_7 : decode jdk_116_method_22_code 7 = .ok (.iload_n 0, 1) := by decide +kernel
theorem d_jdk_116m22_8 : decode jdk_116_method_22_code 8 = .ok (.sipush 223, 3) := by decide +kernel
theorem d_jdk_116m22_11 : decode jdk_116_method_22_code 11 = .ok (.iand, 1) := by decide +kernel
theorem d_jdk_116m22_12 : decode jdk_116_method_22_code 12 = .ok (.istore_n 2, 1) := by decide +kernel
theorem d_jdk_116m22_13 : decode jdk_116_method_22_code 13 = .ok (.iload_n 2, 1) := by decide +kernel
theorem d_jdk_116m22_14 : decode jdk_116_method_22_code 14 = .ok (.bipush 65, 2) := by decide +kernel
theorem d_jdk_116m22_16 : decode jdk_116_method_22_code 16 = .ok (.if_icmp .ge 5, 3) := by decide +kernel
theorem d_jdk_116m22_21 : decode jdk_116_method_22_code 21 = .ok (.iload_n 2, 1) := by decide +kernel
theorem d_jdk_116m22_22 : decode jdk_116_method_22_code 22 = .ok (.bipush 90, 2) := by decide +kernel
theorem d_jdk_116m22_24 : decode jdk_116_method_22_code 24 = .ok (.if_icmp .le 24, 3) := by decide +kernel
theorem d_jdk_116m22_48 : decode jdk_116_method_22_code 48 = .ok (.iload_n 2, 1) := by decide +kernel
theorem d_jdk_116m22_49 : decode jdk_116_method_22_code 49 = .ok (.iload_n 1, 1) := by decide +kernel
theorem d_jdk_116m22_50 : decode jdk_116_method_22_code 50 = .ok (.sipush 223, 3) := by decide +kernel
theorem d_jdk_116m22_53 : decode jdk_116_method_22_code 53 = .ok (.iand, 1) := by decide +kernel
theorem d_jdk_116m22_54 : decode jdk_116_method_22_code 54 = .ok (.if_icmp .ne 7, 3) := by decide +kernel
theorem d_jdk_116m22_57 : decode jdk_116_method_22_code 57 = .ok (.iconst 1, 1) := by decide +kernel
theorem d_jdk_116m22_58 : decode jdk_116_method_22_code 58 = .ok (.goto 4, 3) := by decide +kernel
theorem d_jdk_116m22_62 : decode jdk_116_method_22_code 62 = .ok (.ireturn, 1) := by decide +kernel
theorem d_jdk_116m22_61 : decode jdk_116_method_22_code 61 = .ok (.iconst 0, 1) := by decide +kernel
theorem d_jdk_43m30_0 : decode jdk_43_method_30_code 0 = .ok (.iload_n 1, 1) := by decide +kernel
theorem d_jdk_43m30_1 : decode jdk_43_method_30_code 1 = .ok (.iload 4, 2) := by decide +kernel
theorem d_jdk_43m30_3 : decode jdk_43_method_30_code 3 = .ok (.iadd, 1) := by decide +kernel
theorem d_jdk_43m30_4 : decode jdk_43_method_30_code 4 = .ok (.istore 5, 2) := by decide +kernel
theorem d_jdk_43m30_6 : decode jdk_43_method_30_code 6 = .ok (.iload_n 1, 1) := by decide +kernel
theorem d_jdk_43m30_7 : decode jdk_43_method_30_code 7 = .ok (.iload 5, 2) := by decide +kernel
theorem d_jdk_43m30_9 : decode jdk_43_method_30_code 9 = .ok (.if_icmp .ge 34, 3) := by decide +kernel
theorem d_jdk_43m30_12 : decode jdk_43_method_30_code 12 = .ok (.aload_n 0, 1) := by decide +kernel
theorem d_jdk_43m30_13 : decode jdk_43_method_30_code 13 = .ok (.iload_n 1, 1) := by decide +kernel
theorem d_jdk_43m30_14 : decode jdk_43_method_30_code 14 = .ok (.iinc 1 1, 3) := by decide +kernel
theorem d_jdk_43m30_17 : decode jdk_43_method_30_code 17 = .ok (.baload, 1) := by decide +kernel
theorem d_jdk_43m30_18 : decode jdk_43_method_30_code 18 = .ok (.istore 6, 2) := by decide +kernel
theorem d_jdk_43m30_20 : decode jdk_43_method_30_code 20 = .ok (.aload_n 2, 1) := by decide +kernel
theorem d_jdk_43m30_21 : decode jdk_43_method_30_code 21 = .ok (.iload_n 3, 1) := by decide +kernel
theorem d_jdk_43m30_22 : decode jdk_43_method_30_code 22 = .ok (.iinc 3 1, 3) := by decide +kernel
theorem d_jdk_43m30_25 : decode jdk_43_method_30_code 25 = .ok (.baload, 1) := by decide +kernel
theorem d_jdk_43m30_26 : decode jdk_43_method_30_code 26 = .ok (.istore 7, 2) := by decide +kernel
theorem d_jdk_43m30_28 : decode jdk_43_method_30_code 28 = .ok (.iload 6, 2) := by decide +kernel
theorem d_jdk_43m30_30 : decode jdk_43_method_30_code 30 = .ok (.iload 7, 2) := by decide +kernel
theorem d_jdk_43m30_32 : decode jdk_43_method_30_code 32 = .ok (.invokestatic 153, 3) := by decide +kernel
theorem d_jdk_43m30_35 : decode jdk_43_method_30_code 35 = .ok (.ifCond .eq 6, 3) := by decide +kernel
theorem d_jdk_43m30_41 : decode jdk_43_method_30_code 41 = .ok (.iconst 0, 1) := by decide +kernel
theorem d_jdk_43m30_42 : decode jdk_43_method_30_code 42 = .ok (.ireturn, 1) := by decide +kernel
theorem d_jdk_43m30_38 : decode jdk_43_method_30_code 38 = .ok (.goto (-32), 3) := by decide +kernel
theorem d_jdk_43m30_43 : decode jdk_43_method_30_code 43 = .ok (.iconst 1, 1) := by decide +kernel
theorem d_jdk_43m30_44 : decode jdk_43_method_30_code 44 = .ok (.ireturn, 1) := by decide +kernel
theorem d_jdk_42m152_0 : decode jdk_42_method_152_code 0 = .ok (.getstatic 38, 3) := by decide +kernel
theorem d_jdk_42m152_3 : decode jdk_42_method_152_code 3 = .ok (.ifCond .eq 10, 3) := by decide +kernel
theorem d_jdk_42m152_6 : decode jdk_42_method_152_code 6 = .ok (.aload_n 0, 1) := by decide +kernel
theorem d_jdk_42m152_7 : decode jdk_42_method_152_code 7 = .ok (.getfield 15, 3) := by decide +kernel
theorem d_jdk_42m152_10 : decode jdk_42_method_152_code 10 = .ok (.goto 4, 3) := by decide +kernel
theorem d_jdk_42m152_14 : decode jdk_42_method_152_code 14 = .ok (.ireturn, 1) := by decide +kernel
theorem d_jdk_42m74_0 : decode jdk_42_method_74_code 0 = .ok (.iload_n 1, 1) := by decide +kernel
theorem d_jdk_42m74_1 : decode jdk_42_method_74_code 1 = .ok (.ifCond .ne 14, 3) := by decide +kernel
theorem d_jdk_42m74_15 : decode jdk_42_method_74_code 15 = .ok (.iload 4, 2) := by decide +kernel
theorem d_jdk_42m74_17 : decode jdk_42_method_74_code 17 = .ok (.ifCond .lt 38, 3) := by decide +kernel
theorem d_jdk_42m74_20 : decode jdk_42_method_74_code 20 = .ok (.iload_n 2, 1) := by decide +kernel
theorem d_jdk_42m74_21 : decode jdk_42_method_74_code 21 = .ok (.ifCond .lt 34, 3) := by decide +kernel
theorem d_jdk_42m74_24 : decode jdk_42_method_74_code 24 = .ok (.iload_n 2, 1) := by decide +kernel
theorem d_jdk_42m74_25 : decode jdk_42_method_74_code 25 = .ok (.i2l, 1) := by decide +kernel
theorem d_jdk_42m74_26 : decode jdk_42_method_74_code 26 = .ok (.aload_n 0, 1) := by decide +kernel
theorem d_jdk_42m74_27 : decode jdk_42_method_74_code 27 = .ok (.invokevirtual 505, 3) := by decide +kernel
theorem d_jdk_42m74_30 : decode jdk_42_method_74_code 30 = .ok (.i2l, 1) := by decide +kernel
theorem d_jdk_42m74_31 : decode jdk_42_method_74_code 31 = .ok (.iload 5, 2) := by decide +kernel
theorem d_jdk_42m74_33 : decode jdk_42_method_74_code 33 = .ok (.i2l, 1) := by decide +kernel
theorem d_jdk_42m74_34 : decode jdk_42_method_74_code 34 = .ok (.lsub, 1) := by decide +kernel
theorem d_jdk_42m74_35 : decode jdk_42_method_74_code 35 = .ok (.lcmp, 1) := by decide +kernel
theorem d_jdk_42m74_36 : decode jdk_42_method_74_code 36 = .ok (.ifCond .gt 19, 3) := by decide +kernel
theorem d_jdk_42m74_39 : decode jdk_42_method_74_code 39 = .ok (.iload 4, 2) := by decide +kernel
theorem d_jdk_42m74_41 : decode jdk_42_method_74_code 41 = .ok (.i2l, 1) := by decide +kernel
theorem d_jdk_42m74_42 : decode jdk_42_method_74_code 42 = .ok (.aload_n 3, 1) := by decide +kernel
theorem d_jdk_42m74_43 : decode jdk_42_method_74_code 43 = .ok (.invokevirtual 505, 3) := by decide +kernel
theorem d_jdk_42m74_46 : decode jdk_42_method_74_code 46 = .ok (.i2l, 1) := by decide +kernel
theorem d_jdk_42m74_47 : decode jdk_42_method_74_code 47 = .ok (.iload 5, 2) := by decide +kernel
theorem d_jdk_42m74_49 : decode jdk_42_method_74_code 49 = .ok (.i2l, 1) := by decide +kernel
theorem d_jdk_42m74_50 : decode jdk_42_method_74_code 50 = .ok (.lsub, 1) := by decide +kernel
theorem d_jdk_42m74_51 : decode jdk_42_method_74_code 51 = .ok (.lcmp, 1) := by decide +kernel
theorem d_jdk_42m74_52 : decode jdk_42_method_74_code 52 = .ok (.ifCond .le 5, 3) := by decide +kernel
theorem d_jdk_42m74_57 : decode jdk_42_method_74_code 57 = .ok (.aload_n 0, 1) := by decide +kernel
theorem d_jdk_42m74_58 : decode jdk_42_method_74_code 58 = .ok (.getfield 9, 3) := by decide +kernel
theorem d_jdk_42m74_61 : decode jdk_42_method_74_code 61 = .ok (.astore 6, 2) := by decide +kernel
theorem d_jdk_42m74_63 : decode jdk_42_method_74_code 63 = .ok (.aload_n 3, 1) := by decide +kernel
theorem d_jdk_42m74_64 : decode jdk_42_method_74_code 64 = .ok (.getfield 9, 3) := by decide +kernel
theorem d_jdk_42m74_67 : decode jdk_42_method_74_code 67 = .ok (.astore 7, 2) := by decide +kernel
theorem d_jdk_42m74_69 : decode jdk_42_method_74_code 69 = .ok (.aload_n 0, 1) := by decide +kernel
theorem d_jdk_42m74_70 : decode jdk_42_method_74_code 70 = .ok (.invokevirtual 335, 3) := by decide +kernel
theorem d_jdk_42m74_73 : decode jdk_42_method_74_code 73 = .ok (.istore 8, 2) := by decide +kernel
theorem d_jdk_42m74_75 : decode jdk_42_method_74_code 75 = .ok (.iload 8, 2) := by decide +kernel
theorem d_jdk_42m74_77 : decode jdk_42_method_74_code 77 = .ok (.aload_n 3, 1) := by decide +kernel
theorem d_jdk_42m74_78 : decode jdk_42_method_74_code 78 = .ok (.invokevirtual 335, 3) := by decide +kernel
theorem d_jdk_42m74_81 : decode jdk_42_method_74_code 81 = .ok (.if_icmp .ne 36, 3) := by decide +kernel
theorem d_jdk_42m74_84 : decode jdk_42_method_74_code 84 = .ok (.iload 8, 2) := by decide +kernel
theorem d_jdk_42m74_86 : decode jdk_42_method_74_code 86 = .ok (.ifCond .ne 18, 3) := by decide +kernel
theorem d_jdk_42m74_89 : decode jdk_42_method_74_code 89 = .ok (.aload 6, 2) := by decide +kernel
theorem d_jdk_42m74_91 : decode jdk_42_method_74_code 91 = .ok (.iload_n 2, 1) := by decide +kernel
theorem d_jdk_42m74_92 : decode jdk_42_method_74_code 92 = .ok (.aload 7, 2) := by decide +kernel
theorem d_jdk_42m74_94 : decode jdk_42_method_74_code 94 = .ok (.iload 4, 2) := by decide +kernel
theorem d_jdk_42m74_96 : decode jdk_42_method_74_code 96 = .ok (.iload 5, 2) := by decide +kernel
theorem d_jdk_42m74_98 : decode jdk_42_method_74_code 98 = .ok (.invokestatic 613, 3) := by decide +kernel
theorem d_jdk_42m74_101 : decode jdk_42_method_74_code 101 = .ok (.goto 15, 3) := by decide +kernel
theorem d_jdk_42m74_116 : decode jdk_42_method_74_code 116 = .ok (.ireturn, 1) := by decide +kernel
theorem d_jdk_42m70_0 : decode jdk_42_method_70_code 0 = .ok (.aload_n 0, 1) := by decide +kernel
theorem d_jdk_42m70_1 : decode jdk_42_method_70_code 1 = .ok (.aload_n 1, 1) := by decide +kernel
theorem d_jdk_42m70_2 : decode jdk_42_method_70_code 2 = .ok (.if_acmp .ne 7, 3) := by decide +kernel
theorem d_jdk_42m70_9 : decode jdk_42_method_70_code 9 = .ok (.aload_n 1, 1) := by decide +kernel
theorem d_jdk_42m70_10 : decode jdk_42_method_70_code 10 = .ok (.ifnull 33, 3) := by decide +kernel
theorem d_jdk_42m70_13 : decode jdk_42_method_70_code 13 = .ok (.aload_n 1, 1) := by decide +kernel
theorem d_jdk_42m70_14 : decode jdk_42_method_70_code 14 = .ok (.invokevirtual 505, 3) := by decide +kernel
theorem d_jdk_42m70_17 : decode jdk_42_method_70_code 17 = .ok (.aload_n 0, 1) := by decide +kernel
theorem d_jdk_42m70_18 : decode jdk_42_method_70_code 18 = .ok (.invokevirtual 505, 3) := by decide +kernel
theorem d_jdk_42m70_21 : decode jdk_42_method_70_code 21 = .ok (.if_icmp .ne 22, 3) := by decide +kernel
theorem d_jdk_42m70_24 : decode jdk_42_method_70_code 24 = .ok (.aload_n 0, 1) := by decide +kernel
theorem d_jdk_42m70_25 : decode jdk_42_method_70_code 25 = .ok (.iconst 1, 1) := by decide +kernel
theorem d_jdk_42m70_26 : decode jdk_42_method_70_code 26 = .ok (.iconst 0, 1) := by decide +kernel
theorem d_jdk_42m70_27 : decode jdk_42_method_70_code 27 = .ok (.aload_n 1, 1) := by decide +kernel
theorem d_jdk_42m70_28 : decode jdk_42_method_70_code 28 = .ok (.iconst 0, 1) := by decide +kernel
theorem d_jdk_42m70_29 : decode jdk_42_method_70_code 29 = .ok (.aload_n 0, 1) := by decide +kernel
theorem d_jdk_42m70_30 : decode jdk_42_method_70_code 30 = .ok (.invokevirtual 505, 3) := by decide +kernel
theorem d_jdk_42m70_33 : decode jdk_42_method_70_code 33 = .ok (.invokevirtual 582, 3) := by decide +kernel
theorem d_jdk_42m70_36 : decode jdk_42_method_70_code 36 = .ok (.ifCond .eq 7, 3) := by decide +kernel
theorem d_jdk_42m70_43 : decode jdk_42_method_70_code 43 = .ok (.iconst 0, 1) := by decide +kernel
theorem d_jdk_42m70_44 : decode jdk_42_method_70_code 44 = .ok (.ireturn, 1) := by decide +kernel
theorem d_jdk_42m70_39 : decode jdk_42_method_70_code 39 = .ok (.iconst 1, 1) := by decide +kernel
theorem d_jdk_42m70_40 : decode jdk_42_method_70_code 40 = .ok (.goto 4, 3) := by decide +kernel
theorem d_jdk_43m3_0 : decode jdk_43_method_3_code 0 = .ok (.iload_n 0, 1) := by decide +kernel
theorem d_jdk_43m3_1 : decode jdk_43_method_3_code 1 = .ok (.sipush 255, 3) := by decide +kernel
theorem d_jdk_43m3_4 : decode jdk_43_method_3_code 4 = .ok (.if_icmp .gt 7, 3) := by decide +kernel
theorem d_jdk_43m3_7 : decode jdk_43_method_3_code 7 = .ok (.iconst 1, 1) := by decide +kernel
theorem d_jdk_43m3_8 : decode jdk_43_method_3_code 8 = .ok (.goto 4, 3) := by decide +kernel
theorem d_jdk_43m3_12 : decode jdk_43_method_3_code 12 = .ok (.ireturn, 1) := by decide +kernel
theorem d_jdk_43m46_0 : decode jdk_43_method_46_code 0 = .ok (.iconst 1, 1) := by decide +kernel
theorem d_jdk_43m46_1 : decode jdk_43_method_46_code 1 = .ok (.newarray .byte, 2) := by decide +kernel
theorem d_jdk_43m46_3 : decode jdk_43_method_46_code 3 = .ok (.dup, 1) := by decide +kernel
theorem d_jdk_43m46_4 : decode jdk_43_method_46_code 4 = .ok (.iconst 0, 1) := by decide +kernel
theorem d_jdk_43m46_5 : decode jdk_43_method_46_code 5 = .ok (.iload_n 0, 1) := by decide +kernel
theorem d_jdk_43m46_6 : decode jdk_43_method_46_code 6 = .ok (.i2b, 1) := by decide +kernel
theorem d_jdk_43m46_7 : decode jdk_43_method_46_code 7 = .ok (.bastore, 1) := by decide +kernel
theorem d_jdk_43m46_8 : decode jdk_43_method_46_code 8 = .ok (.areturn, 1) := by decide +kernel
theorem d_jdk_42m139_0 : decode jdk_42_method_139_code 0 = .ok (.getstatic 38, 3) := by decide +kernel
theorem d_jdk_42m139_3 : decode jdk_42_method_139_code 3 = .ok (.ifCond .eq 23, 3) := by decide +kernel
theorem d_jdk_42m139_6 : decode jdk_42_method_139_code 6 = .ok (.iload_n 0, 1) := by decide +kernel
theorem d_jdk_42m139_7 : decode jdk_42_method_139_code 7 = .ok (.invokestatic 1015, 3) := by decide +kernel
theorem d_jdk_42m139_10 : decode jdk_42_method_139_code 10 = .ok (.ifCond .eq 16, 3) := by decide +kernel
theorem d_jdk_42m139_13 : decode jdk_42_method_139_code 13 = .ok (.new 10, 3) := by decide +kernel
theorem d_jdk_42m139_16 : decode jdk_42_method_139_code 16 = .ok (.dup, 1) := by decide +kernel
theorem d_jdk_42m139_17 : decode jdk_42_method_139_code 17 = .ok (.iload_n 0, 1) := by decide +kernel
theorem d_jdk_42m139_18 : decode jdk_42_method_139_code 18 = .ok (.invokestatic 1018, 3) := by decide +kernel
theorem d_jdk_42m139_21 : decode jdk_42_method_139_code 21 = .ok (.iconst 0, 1) := by decide +kernel
theorem d_jdk_42m139_22 : decode jdk_42_method_139_code 22 = .ok (.invokespecial 209, 3) := by decide +kernel
theorem d_jdk_42m139_25 : decode jdk_42_method_139_code 25 = .ok (.areturn, 1) := by decide +kernel
theorem d_method_4_0 : decode method_4_code 0 = .ok (.iload_n 0, 1) := by decide +kernel
theorem d_method_4_1 : decode method_4_code 1 = .ok (.ifCond .ne 6, 3) := by decide +kernel
theorem d_method_4_4 : decode method_4_code 4 = .ok (.bipush 97, 2) := by decide +kernel
theorem d_method_4_6 : decode method_4_code 6 = .ok (.ireturn, 1) := by decide +kernel
theorem d_method_4_7 : decode method_4_code 7 = .ok (.iload_n 0, 1) := by decide +kernel
theorem d_method_4_8 : decode method_4_code 8 = .ok (.iconst 1, 1) := by decide +kernel
theorem d_method_4_9 : decode method_4_code 9 = .ok (.if_icmp .ne 6, 3) := by decide +kernel
theorem d_method_4_12 : decode method_4_code 12 = .ok (.bipush 65, 2) := by decide +kernel
theorem d_method_4_14 : decode method_4_code 14 = .ok (.ireturn, 1) := by decide +kernel
theorem d_method_4_15 : decode method_4_code 15 = .ok (.iload_n 0, 1) := by decide +kernel
theorem d_method_4_16 : decode method_4_code 16 = .ok (.iconst 2, 1) := by decide +kernel
theorem d_method_4_17 : decode method_4_code 17 = .ok (.if_icmp .ne 6, 3) := by decide +kernel
theorem d_method_4_20 : decode method_4_code 20 = .ok (.bipush 98, 2) := by decide +kernel
theorem d_method_4_22 : decode method_4_code 22 = .ok (.ireturn, 1) := by decide +kernel
theorem d_method_4_23 : decode method_4_code 23 = .ok (.bipush 66, 2) := by decide +kernel
theorem d_method_4_25 : decode method_4_code 25 = .ok (.ireturn, 1) := by decide +kernel
theorem d_method_3_0 : decode method_3_code 0 = .ok (.lload_n 0, 1) := by decide +kernel
theorem d_method_3_1 : decode method_3_code 1 = .ok (.bipush 8, 2) := by decide +kernel
theorem d_method_3_3 : decode method_3_code 3 = .ok (.iload_n 2, 1) := by decide +kernel
theorem d_method_3_4 : decode method_3_code 4 = .ok (.imul, 1) := by decide +kernel
theorem d_method_3_5 : decode method_3_code 5 = .ok (.lushr, 1) := by decide +kernel
theorem d_method_3_6 : decode method_3_code 6 = .ok (.ldc2_w 51, 3) := by decide +kernel
theorem d_method_3_9 : decode method_3_code 9 = .ok (.land, 1) := by decide +kernel
theorem d_method_3_10 : decode method_3_code 10 = .ok (.l2i, 1) := by decide +kernel
theorem d_method_3_11 : decode method_3_code 11 = .ok (.i2c, 1) := by decide +kernel
theorem d_method_3_12 : decode method_3_code 12 = .ok (.ireturn, 1) := by decide +kernel
theorem d_method_5_0 : decode method_5_code 0 = .ok (.iload_n 0, 1) := by decide +kernel
theorem d_method_5_1 : decode method_5_code 1 = .ok (.bipush 59, 2) := by decide +kernel
theorem d_method_5_3 : decode method_5_code 3 = .ok (.if_icmp .ne 8, 3) := by decide +kernel
theorem d_method_5_6 : decode method_5_code 6 = .ok (.bipush 44, 2) := by decide +kernel
theorem d_method_5_8 : decode method_5_code 8 = .ok (.goto 4, 3) := by decide +kernel
theorem d_method_5_12 : decode method_5_code 12 = .ok (.ireturn, 1) := by decide +kernel
theorem d_method_5_11 : decode method_5_code 11 = .ok (.iload_n 0, 1) := by decide +kernel
theorem d_method_6_0 : decode method_6_code 0 = .ok (.iload_n 0, 1) := by decide +kernel
theorem d_method_6_1 : decode method_6_code 1 = .ok (.bipush 34, 2) := by decide +kernel
theorem d_method_6_3 : decode method_6_code 3 = .ok (.if_icmp .ne 8, 3) := by decide +kernel
theorem d_method_6_6 : decode method_6_code 6 = .ok (.bipush 92, 2) := by decide +kernel
theorem d_method_6_8 : decode method_6_code 8 = .ok (.goto 4, 3) := by decide +kernel
theorem d_method_6_12 : decode method_6_code 12 = .ok (.ireturn, 1) := by decide +kernel
theorem d_method_6_11 : decode method_6_code 11 = .ok (.iload_n 0, 1) := by decide +kernel
theorem d_method_10_0 : decode method_10_code 0 = .ok (.iload_n 3, 1) := by decide +kernel
theorem d_method_10_1 : decode method_10_code 1 = .ok (.iload_n 2, 1) := by decide +kernel
theorem d_method_10_2 : decode method_10_code 2 = .ok (.isub, 1) := by decide +kernel
theorem d_method_10_3 : decode method_10_code 3 = .ok (.istore 4, 2) := by decide +kernel
theorem d_method_10_5 : decode method_10_code 5 = .ok (.aload_n 0, 1) := by decide +kernel
theorem d_method_10_6 : decode method_10_code 6 = .ok (.ifnull 12, 3) := by decide +kernel
theorem d_method_10_9 : decode method_10_code 9 = .ok (.aload_n 0, 1) := by decide +kernel
theorem d_method_10_10 : decode method_10_code 10 = .ok (.invokevirtual 66, 3) := by decide +kernel
theorem d_method_10_13 : decode method_10_code 13 = .ok (.iload 4, 2) := by decide +kernel
theorem d_method_10_15 : decode method_10_code 15 = .ok (.if_icmp .eq 5, 3) := by decide +kernel
theorem d_method_10_20 : decode method_10_code 20 = .ok (.iload 4, 2) := by decide +kernel
theorem d_method_10_22 : decode method_10_code 22 = .ok (.ifCond .le 16, 3) := by decide +kernel
theorem d_method_10_38 : decode method_10_code 38 = .ok (.iload 4, 2) := by decide +kernel
theorem d_method_10_40 : decode method_10_code 40 = .ok (.iconst 1, 1) := by decide +kernel
theorem d_method_10_41 : decode method_10_code 41 = .ok (.if_icmp .le 18, 3) := by decide +kernel
theorem d_method_10_59 : decode method_10_code 59 = .ok (.iload 4, 2) := by decide +kernel
theorem d_method_10_61 : decode method_10_code 61 = .ok (.iconst 2, 1) := by decide +kernel
theorem d_method_10_62 : decode method_10_code 62 = .ok (.if_icmp .le 18, 3) := by decide +kernel
theorem d_method_10_80 : decode method_10_code 80 = .ok (.iload 4, 2) := by decide +kernel
theorem d_method_10_82 : decode method_10_code 82 = .ok (.iconst 3, 1) := by decide +kernel
theorem d_method_10_83 : decode method_10_code 83 = .ok (.if_icmp .le 18, 3) := by decide +kernel
theorem d_method_10_101 : decode method_10_code 101 = .ok (.iconst 1, 1) := by decide +kernel
theorem d_method_10_102 : decode method_10_code 102 = .ok (.ireturn, 1) := by decide +kernel
theorem d_method_10_25 : decode method_10_code 25 = .ok (.aload_n 0, 1) := by decide +kernel
theorem d_method_10_26 : decode method_10_code 26 = .ok (.iconst 0, 1) := by decide +kernel
theorem d_method_10_27 : decode method_10_code 27 = .ok (.invokevirtual 70, 3) := by decide +kernel
theorem d_method_10_30 : decode method_10_code 30 = .ok (.aload_n 1, 1) := by decide +kernel
theorem d_method_10_31 : decode method_10_code 31 = .ok (.iload_n 2, 1) := by decide +kernel
theorem d_method_10_32 : decode method_10_code 32 = .ok (.caload, 1) := by decide +kernel
theorem d_method_10_33 : decode method_10_code 33 = .ok (.if_icmp .eq 5, 3) := by decide +kernel
theorem d_method_10_44 : decode method_10_code 44 = .ok (.aload_n 0, 1) := by decide +kernel
theorem d_method_10_45 : decode method_10_code 45 = .ok (.iconst 1, 1) := by decide +kernel
theorem d_method_10_46 : decode method_10_code 46 = .ok (.invokevirtual 70, 3) := by decide +kernel
theorem d_method_10_49 : decode method_10_code 49 = .ok (.aload_n 1, 1) := by decide +kernel
theorem d_method_10_50 : decode method_10_code 50 = .ok (.iload_n 2, 1) := by decide +kernel
theorem d_method_10_51 : decode method_10_code 51 = .ok (.iconst 1, 1) := by decide +kernel
theorem d_method_10_52 : decode method_10_code 52 = .ok (.iadd, 1) := by decide +kernel
theorem d_method_10_53 : decode method_10_code 53 = .ok (.caload, 1) := by decide +kernel
theorem d_method_10_54 : decode method_10_code 54 = .ok (.if_icmp .eq 5, 3) := by decide +kernel
theorem d_method_10_65 : decode method_10_code 65 = .ok (.aload_n 0, 1) := by decide +kernel
theorem d_method_10_66 : decode method_10_code 66 = .ok (.iconst 2, 1) := by decide +kernel
theorem d_method_10_67 : decode method_10_code 67 = .ok (.invokevirtual 70, 3) := by decide +kernel
theorem d_method_10_70 : decode method_10_code 70 = .ok (.aload_n 1, 1) := by decide +kernel
theorem d_method_10_71 : decode method_10_code 71 = .ok (.iload_n 2, 1) := by decide +kernel
theorem d_method_10_72 : decode method_10_code 72 = .ok (.iconst 2, 1) := by decide +kernel
theorem d_method_10_73 : decode method_10_code 73 = .ok (.iadd, 1) := by decide +kernel
theorem d_method_10_74 : decode method_10_code 74 = .ok (.caload, 1) := by decide +kernel
theorem d_method_10_75 : decode method_10_code 75 = .ok (.if_icmp .eq 5, 3) := by decide +kernel
theorem d_method_10_86 : decode method_10_code 86 = .ok (.aload_n 0, 1) := by decide +kernel
theorem d_method_10_87 : decode method_10_code 87 = .ok (.iconst 3, 1) := by decide +kernel
theorem d_method_10_88 : decode method_10_code 88 = .ok (.invokevirtual 70, 3) := by decide +kernel
theorem d_method_10_91 : decode method_10_code 91 = .ok (.aload_n 1, 1) := by decide +kernel
theorem d_method_10_92 : decode method_10_code 92 = .ok (.iload_n 2, 1) := by decide +kernel
theorem d_method_10_93 : decode method_10_code 93 = .ok (.iconst 3, 1) := by decide +kernel
theorem d_method_10_94 : decode method_10_code 94 = .ok (.iadd, 1) := by decide +kernel
theorem d_method_10_95 : decode method_10_code 95 = .ok (.caload, 1) := by decide +kernel
theorem d_method_10_96 : decode method_10_code 96 = .ok (.if_icmp .eq 5, 3) := by decide +kernel
theorem d_method_7_0 : decode method_7_code 0 = .ok (.aload_n 0, 1) := by decide +kernel
theorem d_method_7_1 : decode method_7_code 1 = .ok (.iload_n 1, 1) := by decide +kernel
theorem d_method_7_2 : decode method_7_code 2 = .ok (.caload, 1) := by decide +kernel
theorem d_method_7_3 : decode method_7_code 3 = .ok (.bipush 32, 2) := by decide +kernel
theorem d_method_7_5 : decode method_7_code 5 = .ok (.if_icmp .le 5, 3) := by decide +kernel
theorem d_method_7_8 : decode method_7_code 8 = .ok (.iload_n 1, 1) := by decide +kernel
theorem d_method_7_9 : decode method_7_code 9 = .ok (.ireturn, 1) := by decide +kernel
theorem d_method_7_10 : decode method_7_code 10 = .ok (.aload_n 0, 1) := by decide +kernel
theorem d_method_7_11 : decode method_7_code 11 = .ok (.iload_n 1, 1) := by decide +kernel
theorem d_method_7_12 : decode method_7_code 12 = .ok (.iconst 1, 1) := by decide +kernel
theorem d_method_7_13 : decode method_7_code 13 = .ok (.iadd, 1) := by decide +kernel
theorem d_method_7_14 : decode method_7_code 14 = .ok (.caload, 1) := by decide +kernel
theorem d_method_7_15 : decode method_7_code 15 = .ok (.bipush 32, 2) := by decide +kernel
theorem d_method_7_17 : decode method_7_code 17 = .ok (.if_icmp .le 7, 3) := by decide +kernel
theorem d_method_7_20 : decode method_7_code 20 = .ok (.iload_n 1, 1) := by decide +kernel
theorem d_method_7_21 : decode method_7_code 21 = .ok (.iconst 1, 1) := by decide +kernel
theorem d_method_7_22 : decode method_7_code 22 = .ok (.iadd, 1) := by decide +kernel
theorem d_method_7_23 : decode method_7_code 23 = .ok (.ireturn, 1) := by decide +kernel
theorem d_method_7_24 : decode method_7_code 24 = .ok (.aload_n 0, 1) := by decide +kernel
theorem d_method_7_25 : decode method_7_code 25 = .ok (.iload_n 1, 1) := by decide +kernel
theorem d_method_7_26 : decode method_7_code 26 = .ok (.iconst 2, 1) := by decide +kernel
theorem d_method_7_27 : decode method_7_code 27 = .ok (.iadd, 1) := by decide +kernel
theorem d_method_7_28 : decode method_7_code 28 = .ok (.caload, 1) := by decide +kernel
theorem d_method_7_29 : decode method_7_code 29 = .ok (.bipush 32, 2) := by decide +kernel
theorem d_method_7_31 : decode method_7_code 31 = .ok (.if_icmp .le 7, 3) := by decide +kernel
theorem d_method_7_34 : decode method_7_code 34 = .ok (.iload_n 1, 1) := by decide +kernel
theorem d_method_7_35 : decode method_7_code 35 = .ok (.iconst 2, 1) := by decide +kernel
theorem d_method_7_36 : decode method_7_code 36 = .ok (.iadd, 1) := by decide +kernel
theorem d_method_7_37 : decode method_7_code 37 = .ok (.ireturn, 1) := by decide +kernel
theorem d_method_7_38 : decode method_7_code 38 = .ok (.aload_n 0, 1) := by decide +kernel
theorem d_method_7_39 : decode method_7_code 39 = .ok (.iload_n 1, 1) := by decide +kernel
theorem d_method_7_40 : decode method_7_code 40 = .ok (.iconst 3, 1) := by decide +kernel
theorem d_method_7_41 : decode method_7_code 41 = .ok (.iadd, 1) := by decide +kernel
theorem d_method_7_42 : decode method_7_code 42 = .ok (.caload, 1) := by decide +kernel
theorem d_method_7_43 : decode method_7_code 43 = .ok (.bipush 32, 2) := by decide +kernel
theorem d_method_7_45 : decode method_7_code 45 = .ok (.if_icmp .le 7, 3) := by decide +kernel
theorem d_method_7_48 : decode method_7_code 48 = .ok (.iload_n 1, 1) := by decide +kernel
theorem d_method_7_49 : decode method_7_code 49 = .ok (.iconst 3, 1) := by decide +kernel
theorem d_method_7_50 : decode method_7_code 50 = .ok (.iadd, 1) := by decide +kernel
theorem d_method_7_51 : decode method_7_code 51 = .ok (.ireturn, 1) := by decide +kernel
theorem d_method_7_52 : decode method_7_code 52 = .ok (.iload_n 1, 1) := by decide +kernel
theorem d_method_7_53 : decode method_7_code 53 = .ok (.iconst 4, 1) := by decide +kernel
theorem d_method_7_54 : decode method_7_code 54 = .ok (.iadd, 1) := by decide +kernel
theorem d_method_7_55 : decode method_7_code 55 = .ok (.ireturn, 1) := by decide +kernel
theorem d_method_8_0 : decode method_8_code 0 = .ok (.aload_n 0, 1) := by decide +kernel
theorem d_method_8_1 : decode method_8_code 1 = .ok (.iload_n 1, 1) := by decide +kernel
theorem d_method_8_2 : decode method_8_code 2 = .ok (.iconst 3, 1) := by decide +kernel
theorem d_method_8_3 : decode method_8_code 3 = .ok (.iadd, 1) := by decide +kernel
theorem d_method_8_4 : decode method_8_code 4 = .ok (.caload, 1) := by decide +kernel
theorem d_method_8_5 : decode method_8_code 5 = .ok (.bipush 32, 2) := by decide +kernel
theorem d_method_8_7 : decode method_8_code 7 = .ok (.if_icmp .le 7, 3) := by decide +kernel
theorem d_method_8_10 : decode method_8_code 10 = .ok (.iload_n 1, 1) := by decide +kernel
theorem d_method_8_11 : decode method_8_code 11 = .ok (.iconst 4, 1) := by decide +kernel
theorem d_method_8_12 : decode method_8_code 12 = .ok (.iadd, 1) := by decide +kernel
theorem d_method_8_13 : decode method_8_code 13 = .ok (.ireturn, 1) := by decide +kernel
theorem d_method_8_14 : decode method_8_code 14 = .ok (.aload_n 0, 1) := by decide +kernel
theorem d_method_8_15 : decode method_8_code 15 = .ok (.iload_n 1, 1) := by decide +kernel
theorem d_method_8_16 : decode method_8_code 16 = .ok (.iconst 2, 1) := by decide +kernel
theorem d_method_8_17 : decode method_8_code 17 = .ok (.iadd, 1) := by decide +kernel
theorem d_method_8_18 : decode method_8_code 18 = .ok (.caload, 1) := by decide +kernel
theorem d_method_8_19 : decode method_8_code 19 = .ok (.bipush 32, 2) := by decide +kernel
theorem d_method_8_21 : decode method_8_code 21 = .ok (.if_icmp .le 7, 3) := by decide +kernel
theorem d_method_8_24 : decode method_8_code 24 = .ok (.iload_n 1, 1) := by decide +kernel
theorem d_method_8_25 : decode method_8_code 25 = .ok (.iconst 3, 1) := by decide +kernel
theorem d_method_8_26 : decode method_8_code 26 = .ok (.iadd, 1) := by decide +kernel
theorem d_method_8_27 : decode method_8_code 27 = .ok (.ireturn, 1) := by decide +kernel
theorem d_method_8_28 : decode method_8_code 28 = .ok (.aload_n 0, 1) := by decide +kernel
theorem d_method_8_29 : decode method_8_code 29 = .ok (.iload_n 1, 1) := by decide +kernel
theorem d_method_8_30 : decode method_8_code 30 = .ok (.iconst 1, 1) := by decide +kernel
theorem d_method_8_31 : decode method_8_code 31 = .ok (.iadd, 1) := by decide +kernel
theorem d_method_8_32 : decode method_8_code 32 = .ok (.caload, 1) := by decide +kernel
theorem d_method_8_33 : decode method_8_code 33 = .ok (.bipush 32, 2) := by decide +kernel
theorem d_method_8_35 : decode method_8_code 35 = .ok (.if_icmp .le 7, 3) := by decide +kernel
theorem d_method_8_38 : decode method_8_code 38 = .ok (.iload_n 1, 1) := by decide +kernel
theorem d_method_8_39 : decode method_8_code 39 = .ok (.iconst 2, 1) := by decide +kernel
theorem d_method_8_40 : decode method_8_code 40 = .ok (.iadd, 1) := by decide +kernel
theorem d_method_8_41 : decode method_8_code 41 = .ok (.ireturn, 1) := by decide +kernel
theorem d_method_8_42 : decode method_8_code 42 = .ok (.aload_n 0, 1) := by decide +kernel
theorem d_method_8_43 : decode method_8_code 43 = .ok (.iload_n 1, 1) := by decide +kernel
theorem d_method_8_44 : decode method_8_code 44 = .ok (.caload, 1) := by decide +kernel
theorem d_method_8_45 : decode method_8_code 45 = .ok (.bipush 32, 2) := by decide +kernel
theorem d_method_8_47 : decode method_8_code 47 = .ok (.if_icmp .le 7, 3) := by decide +kernel
theorem d_method_8_50 : decode method_8_code 50 = .ok (.iload_n 1, 1) := by decide +kernel
theorem d_method_8_51 : decode method_8_code 51 = .ok (.iconst 1, 1) := by decide +kernel
theorem d_method_8_52 : decode method_8_code 52 = .ok (.iadd, 1) := by decide +kernel
theorem d_method_8_53 : decode method_8_code 53 = .ok (.ireturn, 1) := by decide +kernel
theorem d_method_8_54 : decode method_8_code 54 = .ok (.iload_n 1, 1) := by decide +kernel
theorem d_method_8_55 : decode method_8_code 55 = .ok (.ireturn, 1) := by decide +kernel
theorem d_jdk_29m65_9 : decode jdk_29_method_65_code 9 = .ok (.iload_n 1, 1) := by decide +kernel
theorem d_method_9_0 : decode method_9_code 0 = .ok (.aload_n 1, 1) := by decide +kernel
theorem d_method_9_1 : decode method_9_code 1 = .ok (.iload_n 2, 1) := by decide +kernel
theorem d_method_9_2 : decode method_9_code 2 = .ok (.invokestatic 53, 3) := by decide +kernel
theorem d_method_9_5 : decode method_9_code 5 = .ok (.istore_n 3, 1) := by decide +kernel
theorem d_method_9_6 : decode method_9_code 6 = .ok (.aload_n 1, 1) := by decide +kernel
theorem d_method_9_7 : decode method_9_code 7 = .ok (.iload_n 2, 1) := by decide +kernel
theorem d_method_9_8 : decode method_9_code 8 = .ok (.invokestatic 57, 3) := by decide +kernel
theorem d_method_9_11 : decode method_9_code 11 = .ok (.istore 4, 2) := by decide +kernel
theorem d_method_9_13 : decode method_9_code 13 = .ok (.aload_n 0, 1) := by decide +kernel
theorem d_method_9_14 : decode method_9_code 14 = .ok (.aload_n 1, 1) := by decide +kernel
theorem d_method_9_15 : decode method_9_code 15 = .ok (.iload_n 3, 1) := by decide +kernel
theorem d_method_9_16 : decode method_9_code 16 = .ok (.iload_n 3, 1) := by decide +kernel
theorem d_method_9_17 : decode method_9_code 17 = .ok (.iload 4, 2) := by decide +kernel
theorem d_method_9_19 : decode method_9_code 19 = .ok (.invokestatic 60, 3) := by decide +kernel
theorem d_method_9_22 : decode method_9_code 22 = .ok (.invokestatic 47, 3) := by decide +kernel
theorem d_method_9_25 : decode method_9_code 25 = .ok (.ireturn, 1) := by decide +kernel
theorem d_prog_10m3_0 : decode prog_10_method_3_code 0 = .ok (.aload_n 0, 1) := by decide +kernel
theorem d_prog_10m3_1 : decode prog_10_method_3_code 1 = .ok (.ifnonnull 5, 3) := by decide +kernel
theorem d_prog_10m3_4 : decode prog_10_method_3_code 4 = .ok (.aconst_null, 1) := by decide +kernel
theorem d_prog_10m3_5 : decode prog_10_method_3_code 5 = .ok (.areturn, 1) := by decide +kernel
theorem d_prog_10m3_6 : decode prog_10_method_3_code 6 = .ok (.aload_n 0, 1) := by decide +kernel
theorem d_prog_10m3_7 : decode prog_10_method_3_code 7 = .ok (.bipush 59, 2) := by decide +kernel
theorem d_prog_10m3_9 : decode prog_10_method_3_code 9 = .ok (.invokevirtual 9, 3) := by decide +kernel
theorem d_prog_10m3_12 : decode prog_10_method_3_code 12 = .ok (.istore_n 2, 1) := by decide +kernel
theorem d_prog_10m3_13 : decode prog_10_method_3_code 13 = .ok (.iload_n 2, 1) := by decide +kernel
theorem d_prog_10m3_14 : decode prog_10_method_3_code 14 = .ok (.ifCond .lt 159, 3) := by decide +kernel
theorem d_prog_10m3_17 : decode prog_10_method_3_code 17 = .ok (.aload_n 0, 1) := by decide +kernel
theorem d_prog_10m3_18 : decode prog_10_method_3_code 18 = .ok (.bipush 61, 2) := by decide +kernel
theorem d_prog_10m3_20 : decode prog_10_method_3_code 20 = .ok (.iload_n 2, 1) := by decide +kernel
theorem d_prog_10m3_21 : decode prog_10_method_3_code 21 = .ok (.invokevirtual 33, 3) := by decide +kernel
theorem d_prog_10m3_24 : decode prog_10_method_3_code 24 = .ok (.istore_n 3, 1) := by decide +kernel
theorem d_prog_10m3_25 : decode prog_10_method_3_code 25 = .ok (.iload_n 3, 1) := by decide +kernel
theorem d_prog_10m3_26 : decode prog_10_method_3_code 26 = .ok (.ifCond .ge 5, 3) := by decide +kernel
theorem d_prog_10m3_31 : decode prog_10_method_3_code 31 = .ok (.aload_n 0, 1) := by decide +kernel
theorem d_prog_10m3_32 : decode prog_10_method_3_code 32 = .ok (.iload_n 2, 1) := by decide +kernel
theorem d_prog_10m3_33 : decode prog_10_method_3_code 33 = .ok (.iconst 1, 1) := by decide +kernel
theorem d_prog_10m3_34 : decode prog_10_method_3_code 34 = .ok (.iadd, 1) := by decide +kernel
theorem d_prog_10m3_35 : decode prog_10_method_3_code 35 = .ok (.iload_n 3, 1) := by decide +kernel
theorem d_prog_10m3_36 : decode prog_10_method_3_code 36 = .ok (.invokevirtual 15, 3) := by decide +kernel
theorem d_prog_10m3_39 : decode prog_10_method_3_code 39 = .ok (.invokevirtual 19, 3) := by decide +kernel
theorem d_prog_10m3_42 : decode prog_10_method_3_code 42 = .ok (.astore 4, 2) := by decide +kernel
theorem d_prog_10m3_44 : decode prog_10_method_3_code 44 = .ok (.iload_n 3, 1) := by decide +kernel
theorem d_prog_10m3_45 : decode prog_10_method_3_code 45 = .ok (.iconst 1, 1) := by decide +kernel
theorem d_prog_10m3_46 : decode prog_10_method_3_code 46 = .ok (.iadd, 1) := by decide +kernel
theorem d_prog_10m3_47 : decode prog_10_method_3_code 47 = .ok (.istore 5, 2) := by decide +kernel
theorem d_prog_10m3_49 : decode prog_10_method_3_code 49 = .ok (.iload 5, 2) := by decide +kernel
theorem d_prog_10m3_51 : decode prog_10_method_3_code 51 = .ok (.aload_n 0, 1) := by decide +kernel
theorem d_prog_10m3_52 : decode prog_10_method_3_code 52 = .ok (.invokevirtual 36, 3) := by decide +kernel
theorem d_prog_10m3_55 : decode prog_10_method_3_code 55 = .ok (.if_icmp .ge 71, 3) := by decide +kernel
theorem d_prog_10m3_126 : decode prog_10_method_3_code 126 = .ok (.aload_n 0, 1) := by decide +kernel
theorem d_prog_10m3_127 : decode prog_10_method_3_code 127 = .ok (.bipush 59, 2) := by decide +kernel
theorem d_prog_10m3_129 : decode prog_10_method_3_code 129 = .ok (.iload 5, 2) := by decide +kernel
theorem d_prog_10m3_131 : decode prog_10_method_3_code 131 = .ok (.invokevirtual 33, 3) := by decide +kernel
theorem d_prog_10m3_134 : decode prog_10_method_3_code 134 = .ok (.istore_n 2, 1) := by decide +kernel
theorem d_prog_10m3_135 : decode prog_10_method_3_code 135 = .ok (.aload_n 0, 1) := by decide +kernel
theorem d_prog_10m3_136 : decode prog_10_method_3_code 136 = .ok (.iload 5, 2) := by decide +kernel
theorem d_prog_10m3_138 : decode prog_10_method_3_code 138 = .ok (.iload_n 2, 1) := by decide +kernel
theorem d_prog_10m3_139 : decode prog_10_method_3_code 139 = .ok (.ifCond .ge 10, 3) := by decide +kernel
theorem d_prog_10m3_142 : decode prog_10_method_3_code 142 = .ok (.aload_n 0, 1) := by decide +kernel
theorem d_prog_10m3_143 : decode prog_10_method_3_code 143 = .ok (.invokevirtual 36, 3) := by decide +kernel
theorem d_prog_10m3_146 : decode prog_10_method_3_code 146 = .ok (.goto 4, 3) := by decide +kernel
theorem d_prog_10m3_150 : decode prog_10_method_3_code 150 = .ok (.invokevirtual 15, 3) := by decide +kernel
theorem d_prog_10m3_153 : decode prog_10_method_3_code 153 = .ok (.invokevirtual 19, 3) := by decide +kernel
theorem d_prog_10m3_156 : decode prog_10_method_3_code 156 = .ok (.astore 6, 2) := by decide +kernel
theorem d_prog_10m3_158 : decode prog_10_method_3_code 158 = .ok (.aload 4, 2) := by decide +kernel
theorem d_prog_10m3_160 : decode prog_10_method_3_code 160 = .ok (.aload_n 1, 1) := by decide +kernel
theorem d_prog_10m3_161 : decode prog_10_method_3_code 161 = .ok (.invokevirtual 44, 3) := by decide +kernel
theorem d_prog_10m3_164 : decode prog_10_method_3_code 164 = .ok (.ifCond .eq 6, 3) := by decide +kernel
theorem d_prog_10m3_170 : decode prog_10_method_3_code 170 = .ok (.goto (-157), 3) := by decide +kernel
theorem d_prog_10m3_173 : decode prog_10_method_3_code 173 = .ok (.aconst_null, 1) := by decide +kernel
theorem d_prog_10m3_174 : decode prog_10_method_3_code 174 = .ok (.areturn, 1) := by decide +kernel
theorem d_prog_10m3_29 : decode prog_10_method_3_code 29 = .ok (.aconst_null, 1) := by decide +kernel
theorem d_prog_10m3_30 : decode prog_10_method_3_code 30 = .ok (.areturn, 1) := by decide +kernel
theorem d_prog_10m3_167 : decode prog_10_method_3_code 167 = .ok (.aload 6, 2) := by decide +kernel
theorem d_prog_10m3_169 : decode prog_10_method_3_code 169 = .ok (.areturn, 1) := by decide +kernel
theorem d_prog_10m3_58 : decode prog_10_method_3_code 58 = .ok (.aload_n 0, 1) := by decide +kernel
theorem d_prog_10m3_59 : decode prog_10_method_3_code 59 = .ok (.iload 5, 2) := by decide +kernel
theorem d_prog_10m3_61 : decode prog_10_method_3_code 61 = .ok (.invokevirtual 40, 3) := by decide +kernel
theorem d_prog_10m3_64 : decode prog_10_method_3_code 64 = .ok (.bipush 34, 2) := by decide +kernel
theorem d_prog_10m3_66 : decode prog_10_method_3_code 66 = .ok (.if_icmp .ne 60, 3) := by decide +kernel
theorem d_prog_10m3_69 : decode prog_10_method_3_code 69 = .ok (.aload_n 0, 1) := by decide +kernel
theorem d_prog_10m3_70 : decode prog_10_method_3_code 70 = .ok (.bipush 34, 2) := by decide +kernel
theorem d_prog_10m3_72 : decode prog_10_method_3_code 72 = .ok (.iload 5, 2) := by decide +kernel
theorem d_prog_10m3_74 : decode prog_10_method_3_code 74 = .ok (.iconst 1, 1) := by decide +kernel
theorem d_prog_10m3_75 : decode prog_10_method_3_code 75 = .ok (.iadd, 1) := by decide +kernel
theorem d_prog_10m3_76 : decode prog_10_method_3_code 76 = .ok (.invokevirtual 33, 3) := by decide +kernel
theorem d_prog_10m3_79 : decode prog_10_method_3_code 79 = .ok (.istore 7, 2) := by decide +kernel
theorem d_prog_10m3_81 : decode prog_10_method_3_code 81 = .ok (.aload_n 0, 1) := by decide +kernel
theorem d_prog_10m3_82 : decode prog_10_method_3_code 82 = .ok (.iload 5, 2) := by decide +kernel
theorem d_prog_10m3_84 : decode prog_10_method_3_code 84 = .ok (.iconst 1, 1) := by decide +kernel
theorem d_prog_10m3_85 : decode prog_10_method_3_code 85 = .ok (.iadd, 1) := by decide +kernel
theorem d_prog_10m3_86 : decode prog_10_method_3_code 86 = .ok (.iload 7, 2) := by decide +kernel
theorem d_prog_10m3_88 : decode prog_10_method_3_code 88 = .ok (.ifCond .ge 10, 3) := by decide +kernel
theorem d_prog_10m3_98 : decode prog_10_method_3_code 98 = .ok (.iload 7, 2) := by decide +kernel
theorem d_prog_10m3_100 : decode prog_10_method_3_code 100 = .ok (.invokevirtual 15, 3) := by decide +kernel
theorem d_prog_10m3_103 : decode prog_10_method_3_code 103 = .ok (.astore 6, 2) := by decide +kernel
theorem d_prog_10m3_105 : decode prog_10_method_3_code 105 = .ok (.iload 7, 2) := by decide +kernel
theorem d_prog_10m3_107 : decode prog_10_method_3_code 107 = .ok (.ifCond .ge 7, 3) := by decide +kernel
theorem d_prog_10m3_114 : decode prog_10_method_3_code 114 = .ok (.aload_n 0, 1) := by decide +kernel
theorem d_prog_10m3_115 : decode prog_10_method_3_code 115 = .ok (.bipush 59, 2) := by decide +kernel
theorem d_prog_10m3_117 : decode prog_10_method_3_code 117 = .ok (.iload 7, 2) := by decide +kernel
theorem d_prog_10m3_119 : decode prog_10_method_3_code 119 = .ok (.invokevirtual 33, 3) := by decide +kernel
theorem d_prog_10m3_122 : decode prog_10_method_3_code 122 = .ok (.istore_n 2, 1) := by decide +kernel
theorem d_prog_10m3_123 : decode prog_10_method_3_code 123 = .ok (.goto 35, 3) := by decide +kernel
theorem d_prog_10m3_91 : decode prog_10_method_3_code 91 = .ok (.aload_n 0, 1) := by decide +kernel
theorem d_prog_10m3_92 : decode prog_10_method_3_code 92 = .ok (.invokevirtual 36, 3) := by decide +kernel
theorem d_prog_10m3_95 : decode prog_10_method_3_code 95 = .ok (.goto 5, 3) := by decide +kernel
theorem d_prog_10m3_110 : decode prog_10_method_3_code 110 = .ok (.iconst (-1), 1) := by decide +kernel
theorem d_prog_10m3_111 : decode prog_10_method_3_code 111 = .ok (.goto 11, 3) := by decide +kernel
theorem d_prog_10m3_149 : decode prog_10_method_3_code 149 = .ok (.iload_n 2, 1) := by decide +kernel
theorem d_jdk_42m55_0 : decode jdk_42_method_55_code 0 = .ok (.aload_n 0, 1) := by decide +kernel
theorem d_jdk_42m55_1 : decode jdk_42_method_55_code 1 = .ok (.getfield 9, 3) := by decide +kernel
theorem d_jdk_42m55_4 : decode jdk_42_method_55_code 4 = .ok (.arraylength, 1) := by decide +kernel
theorem d_jdk_42m55_5 : decode jdk_42_method_55_code 5 = .ok (.ifCond .ne 7, 3) := by decide +kernel
theorem d_jdk_42m55_8 : decode jdk_42_method_55_code 8 = .ok (.iconst 1, 1) := by decide +kernel
theorem d_jdk_42m55_9 : decode jdk_42_method_55_code 9 = .ok (.goto 4, 3) := by decide +kernel
theorem d_jdk_42m55_13 : decode jdk_42_method_55_code 13 = .ok (.ireturn, 1) := by decide +kernel
theorem pn_0 : plainName "java/lang/String" = true := by first | (simp [plainName, overriddenIn]; done) | decide +kernel
theorem pn_1 : plainName "java/lang/StringLatin1" = true := by first | (simp [plainName, overriddenIn]; done) | decide +kernel
theorem pn_2 : plainName "java/util/Arrays" = true := by first | (simp [plainName, overriddenIn]; done) | decide +kernel
theorem pn_3 : plainName "jdk/internal/util/Preconditions" = true := by first | (simp [plainName, overriddenIn]; done) | decide +kernel
theorem pn_4 : plainName "java/lang/CharacterDataLatin1" = true := by first | (simp [plainName, overriddenIn]; done) | decide +kernel
theorem pn_5 : plainName "com/example/same_answer/sameanswer/MediaTypeParameterPinLaw" = true := by first | (simp [plainName, overriddenIn]; done) | decide +kernel
theorem pn_6 : plainName "com/example/same_answer/sameanswer/MediaType" = true := by first | (simp [plainName, overriddenIn]; done) | decide +kernel
theorem pd_0 : parseMethodDescriptor "(I)Z" = some ⟨[.int], some .boolean⟩ := by decide +kernel
theorem pd_1 : parseMethodDescriptor "(II)I" = some ⟨[.int, .int], some .int⟩ := by decide +kernel
theorem pd_2 : parseMethodDescriptor "([BIII)I" = some ⟨[(.array .byte), .int, .int, .int], some .int⟩ := by decide +kernel
theorem pd_3 : parseMethodDescriptor "()Z" = some ⟨[], some .boolean⟩ := by decide +kernel
theorem pd_4 : parseMethodDescriptor "()I" = some ⟨[], some .int⟩ := by decide +kernel
theorem pd_5 : parseMethodDescriptor "(II)V" = some ⟨[.int, .int], none⟩ := by decide +kernel
theorem pd_6 : parseMethodDescriptor "([BII)[B" = some ⟨[(.array .byte), .int, .int], some (.array .byte)⟩ := by decide +kernel
theorem pd_7 : parseMethodDescriptor "([BB)V" = some ⟨[(.array .byte), .byte], none⟩ := by decide +kernel
theorem pd_8 : parseMethodDescriptor "(IIILjava/util/function/BiFunction;)I" = some ⟨[.int, .int, .int, (.object "java/util/function/BiFunction")], some .int⟩ := by decide +kernel
theorem pd_9 : parseMethodDescriptor "(III)V" = some ⟨[.int, .int, .int], none⟩ := by decide +kernel
theorem pd_10 : parseMethodDescriptor "([BII)Ljava/lang/String;" = some ⟨[(.array .byte), .int, .int], some (.object "java/lang/String")⟩ := by decide +kernel
theorem pd_11 : parseMethodDescriptor "([B)Ljava/lang/String;" = some ⟨[(.array .byte)], some (.object "java/lang/String")⟩ := by decide +kernel
theorem pd_12 : parseMethodDescriptor "(BB)Z" = some ⟨[.byte, .byte], some .boolean⟩ := by decide +kernel
theorem pd_13 : parseMethodDescriptor "()B" = some ⟨[], some .byte⟩ := by decide +kernel
theorem pd_14 : parseMethodDescriptor "([BI[BII)Z" = some ⟨[(.array .byte), .int, (.array .byte), .int, .int], some .boolean⟩ := by decide +kernel
theorem pd_15 : parseMethodDescriptor "(ZILjava/lang/String;II)Z" = some ⟨[.boolean, .int, (.object "java/lang/String"), .int, .int], some .boolean⟩ := by decide +kernel
theorem pd_16 : parseMethodDescriptor "(C)Z" = some ⟨[.char], some .boolean⟩ := by decide +kernel
theorem pd_17 : parseMethodDescriptor "(C)[B" = some ⟨[.char], some (.array .byte)⟩ := by decide +kernel
theorem pd_18 : parseMethodDescriptor "(I)C" = some ⟨[.int], some .char⟩ := by decide +kernel
theorem pd_19 : parseMethodDescriptor "([CI)I" = some ⟨[(.array .char), .int], some .int⟩ := by decide +kernel
theorem pd_20 : parseMethodDescriptor "(Ljava/lang/String;[CII)Z" = some ⟨[(.object "java/lang/String"), (.array .char), .int, .int], some .boolean⟩ := by decide +kernel
theorem pd_21 : parseMethodDescriptor "(I)I" = some ⟨[.int], some .int⟩ := by decide +kernel
theorem pd_22 : parseMethodDescriptor "(II)Ljava/lang/String;" = some ⟨[.int, .int], some (.object "java/lang/String")⟩ := by decide +kernel
theorem pd_23 : parseMethodDescriptor "()Ljava/lang/String;" = some ⟨[], some (.object "java/lang/String")⟩ := by decide +kernel
theorem pd_24 : parseMethodDescriptor "(Ljava/lang/String;)Z" = some ⟨[(.object "java/lang/String")], some .boolean⟩ := by decide +kernel
theorem pd_25 : parseMethodDescriptor "(C)Ljava/lang/String;" = some ⟨[.char], some (.object "java/lang/String")⟩ := by decide +kernel
theorem pd_26 : parseMethodDescriptor "(JI)C" = some ⟨[.long, .int], some .char⟩ := by decide +kernel
theorem pd_27 : parseMethodDescriptor "(Ljava/lang/String;Ljava/lang/String;)Ljava/lang/String;" = some ⟨[(.object "java/lang/String"), (.object "java/lang/String")], some (.object "java/lang/String")⟩ := by decide +kernel
theorem pd_28 : parseMethodDescriptor "([C)V" = some ⟨[(.array .char)], none⟩ := by decide +kernel
theorem pd_29 : parseMethodDescriptor "(C)C" = some ⟨[.char], some .char⟩ := by decide +kernel
theorem pd_30 : parseMethodDescriptor "(Ljava/lang/String;[CI)Z" = some ⟨[(.object "java/lang/String"), (.array .char), .int], some .boolean⟩ := by decide +kernel
theorem ef_cILs (m : MethodId) (x : Addr) : entryFrame m #[(.ref x)] 1 = mkF m 0 #[.val (.ref x)] [] := by first | (simp [entryFrame, mkF, argsToLocals, Value.category]; done) | rfl
theorem ef_cCEi (m : MethodId) (k : Int32) : entryFrame m #[(.int k)] 1 = mkF m 0 #[.val (.int k)] [] := by first | (simp [entryFrame, mkF, argsToLocals, Value.category]; done) | rfl
theorem ef_cMx0 (m : MethodId) (n : Int32) : entryFrame m #[(.int n), (.int (0 : Int32))] 2 = mkF m 0 #[.val (.int n), .val (.int (0 : Int32))] [] := by first | (simp [entryFrame, mkF, argsToLocals, Value.category]; done) | rfl
theorem ef_cMnS (m : MethodId) (n : Int32) (n : Int32) : entryFrame m #[(.int n), (.int n)] 2 = mkF m 0 #[.val (.int n), .val (.int n)] [] := by first | (simp [entryFrame, mkF, argsToLocals, Value.category]; done) | rfl
theorem ef_cIXC (m : MethodId) (t : Addr) (k : Int32) (j_2 : Int32) (j_3 : Int32) : entryFrame m #[(.ref t), (.int k), (.int j_2), (.int j_3)] 6 = mkF m 0 #[.val (.ref t), .val (.int k), .val (.int j_2), .val (.int j_3), .unset, .unset] [] := by first | (simp [entryFrame, mkF, argsToLocals, Value.category]; done) | rfl
theorem ef_cIXL (m : MethodId) (t : Addr) (k : Int32) (j_2 : Int32) (j_3 : Int32) : entryFrame m #[(.ref t), (.int k), (.int j_2), (.int j_3)] 4 = mkF m 0 #[.val (.ref t), .val (.int k), .val (.int j_2), .val (.int j_3)] [] := by first | (simp [entryFrame, mkF, argsToLocals, Value.category]; done) | rfl
theorem ef_cIX2 (m : MethodId) (x : Addr) (k : Int32) (j_2 : Int32) : entryFrame m #[(.ref x), (.int k), (.int j_2)] 3 = mkF m 0 #[.val (.ref x), .val (.int k), .val (.int j_2)] [] := by first | (simp [entryFrame, mkF, argsToLocals, Value.category]; done) | rfl
theorem ef_cIX1 (m : MethodId) (x : Addr) (k : Int32) : entryFrame m #[(.ref x), (.int k)] 2 = mkF m 0 #[.val (.ref x), .val (.int k)] [] := by first | (simp [entryFrame, mkF, argsToLocals, Value.category]; done) | rfl
theorem ef_cCL (m : MethodId) (n : Int32) (m_ : Int32) : entryFrame m #[(.int n), (.int m_)] 2 = mkF m 0 #[.val (.int n), .val (.int m_)] [] := by first | (simp [entryFrame, mkF, argsToLocals, Value.category]; done) | rfl
theorem ef_cMnL (m : MethodId) (n : Int32) (m_ : Int32) : entryFrame m #[(.int n), (.int m_)] 2 = mkF m 0 #[.val (.int n), .val (.int m_)] [] := by first | (simp [entryFrame, mkF, argsToLocals, Value.category]; done) | rfl
theorem ef_cCB (m : MethodId) (t : Addr) (j_1 : Int32) (j_2 : Int32) : entryFrame m #[(.ref t), (.int j_1), (.int j_2)] 5 = mkF m 0 #[.val (.ref t), .val (.int j_1), .val (.int j_2), .unset, .unset] [] := by first | (simp [entryFrame, mkF, argsToLocals, Value.category]; done) | rfl
theorem ef_cCR (m : MethodId) (t : Addr) (j_1 : Int32) (j_2 : Int32) : entryFrame m #[(.ref t), (.int j_1), (.int j_2)] 3 = mkF m 0 #[.val (.ref t), .val (.int j_1), .val (.int j_2)] [] := by first | (simp [entryFrame, mkF, argsToLocals, Value.category]; done) | rfl
theorem ef_cBB (m : MethodId) (x : Addr) (t : Addr) : entryFrame m #[(.ref x), (.ref t), (.int (0 : Int32))] 3 = mkF m 0 #[.val (.ref x), .val (.ref t), .val (.int (0 : Int32))] [] := by first | (simp [entryFrame, mkF, argsToLocals, Value.category]; done) | rfl
theorem ef_cNS (m : MethodId) (t : Addr) (j_1 : Int32) (j_2 : Int32) : entryFrame m #[(.ref t), (.int j_1), (.int j_2)] 3 = mkF m 0 #[.val (.ref t), .val (.int j_1), .val (.int j_2)] [] := by first | (simp [entryFrame, mkF, argsToLocals, Value.category]; done) | rfl
theorem ef_cCF_r (m : MethodId) (i : Int32) (j : Int32) (n : Int32) (fa : Addr) : entryFrame m #[(.int i), (.int j), (.int n), (.ref fa)] 4 = mkF m 0 #[.val (.int i), .val (.int j), .val (.int n), .val (.ref fa)] [] := by first | (simp [entryFrame, mkF, argsToLocals, Value.category]; done) | rfl
theorem ef_cCF_n (m : MethodId) (i : Int32) (j : Int32) (n : Int32) : entryFrame m #[(.int i), (.int j), (.int n), .null] 4 = mkF m 0 #[.val (.int i), .val (.int j), .val (.int n), .val .null] [] := by first | (simp [entryFrame, mkF, argsToLocals, Value.category]; done) | rfl
theorem ef_cBE (m : MethodId) (i : Int32) (j : Int32) (n : Int32) : entryFrame m #[(.int i), (.int j), (.int n)] 3 = mkF m 0 #[.val (.int i), .val (.int j), .val (.int n)] [] := by first | (simp [entryFrame, mkF, argsToLocals, Value.category]; done) | rfl
theorem ef_cSub (m : MethodId) (x : Addr) (j_1 : Int32) (j_2 : Int32) : entryFrame m #[(.ref x), (.int j_1), (.int j_2)] 5 = mkF m 0 #[.val (.ref x), .val (.int j_1), .val (.int j_2), .unset, .unset] [] := by first | (simp [entryFrame, mkF, argsToLocals, Value.category]; done) | rfl
theorem ef_cNS0 (m : MethodId) (t : Addr) (i : Int32) : entryFrame m #[(.ref t), (.int i), (.int (0 : Int32))] 3 = mkF m 0 #[.val (.ref t), .val (.int i), .val (.int (0 : Int32))] [] := by first | (simp [entryFrame, mkF, argsToLocals, Value.category]; done) | rfl
theorem ef_cSub0 (m : MethodId) (x : Addr) (j_1 : Int32) (j_2 : Int32) : entryFrame m #[(.ref x), (.int j_1), (.int j_2)] 5 = mkF m 0 #[.val (.ref x), .val (.int j_1), .val (.int j_2), .unset, .unset] [] := by first | (simp [entryFrame, mkF, argsToLocals, Value.category]; done) | rfl
theorem ef_cTrL_n3 (m : MethodId) (t : Addr) : entryFrame m #[(.ref t)] 3 = mkF m 0 #[.val (.ref t), .unset, .unset] [] := by first | (simp [entryFrame, mkF, argsToLocals, Value.category]; done) | rfl
theorem ef_cTr_n3 (m : MethodId) (x : Addr) : entryFrame m #[(.ref x)] 2 = mkF m 0 #[.val (.ref x), .unset] [] := by first | (simp [entryFrame, mkF, argsToLocals, Value.category]; done) | rfl
theorem ef_cTrL_n2 (m : MethodId) (t : Addr) : entryFrame m #[(.ref t)] 3 = mkF m 0 #[.val (.ref t), .unset, .unset] [] := by first | (simp [entryFrame, mkF, argsToLocals, Value.category]; done) | rfl
theorem ef_cTr_n2 (m : MethodId) (x : Addr) : entryFrame m #[(.ref x)] 2 = mkF m 0 #[.val (.ref x), .unset] [] := by first | (simp [entryFrame, mkF, argsToLocals, Value.category]; done) | rfl
theorem ef_cTrL_n4 (m : MethodId) (t : Addr) : entryFrame m #[(.ref t)] 3 = mkF m 0 #[.val (.ref t), .unset, .unset] [] := by first | (simp [entryFrame, mkF, argsToLocals, Value.category]; done) | rfl
theorem ef_cTr_n4 (m : MethodId) (x : Addr) : entryFrame m #[(.ref x)] 2 = mkF m 0 #[.val (.ref x), .unset] [] := by first | (simp [entryFrame, mkF, argsToLocals, Value.category]; done) | rfl
theorem ef_cTrL_v4 (m : MethodId) (t : Addr) : entryFrame m #[(.ref t)] 3 = mkF m 0 #[.val (.ref t), .unset, .unset] [] := by first | (simp [entryFrame, mkF, argsToLocals, Value.category]; done) | rfl
theorem ef_cTr_v4 (m : MethodId) (x : Addr) : entryFrame m #[(.ref x)] 2 = mkF m 0 #[.val (.ref x), .unset] [] := by first | (simp [entryFrame, mkF, argsToLocals, Value.category]; done) | rfl
theorem ef_cCD (m : MethodId) (j : Int32) (k : Int32) : entryFrame m #[(.int j), (.int k)] 3 = mkF m 0 #[.val (.int j), .val (.int k), .unset] [] := by first | (simp [entryFrame, mkF, argsToLocals, Value.category]; done) | rfl
theorem ef_cRC (m : MethodId) (t : Addr) (u : Addr) : entryFrame m #[(.ref t), (.int (0 : Int32)), (.ref u), (.int (0 : Int32)), (.int (1 : Int32))] 8 = mkF m 0 #[.val (.ref t), .val (.int (0 : Int32)), .val (.ref u), .val (.int (0 : Int32)), .val (.int (1 : Int32)), .unset, .unset, .unset] [] := by first | (simp [entryFrame, mkF, argsToLocals, Value.category]; done) | rfl
theorem ef_cCoS (m : MethodId) (g : Addr) : entryFrame m #[(.ref g)] 1 = mkF m 0 #[.val (.ref g)] [] := by first | (simp [entryFrame, mkF, argsToLocals, Value.category]; done) | rfl
theorem ef_cRM (m : MethodId) (x : Addr) (y : Addr) : entryFrame m #[(.ref x), (.int (1 : Int32)), (.int (0 : Int32)), (.ref y), (.int (0 : Int32)), (.int (1 : Int32))] 9 = mkF m 0 #[.val (.ref x), .val (.int (1 : Int32)), .val (.int (0 : Int32)), .val (.ref y), .val (.int (0 : Int32)), .val (.int (1 : Int32)), .unset, .unset, .unset] [] := by first | (simp [entryFrame, mkF, argsToLocals, Value.category]; done) | rfl
theorem ef_cEI1 (m : MethodId) (x : Addr) (y : Addr) : entryFrame m #[(.ref x), (.ref y)] 2 = mkF m 0 #[.val (.ref x), .val (.ref y)] [] := by first | (simp [entryFrame, mkF, argsToLocals, Value.category]; done) | rfl
theorem ef_cEI3 (m : MethodId) (x : Addr) (y : Addr) : entryFrame m #[(.ref x), (.ref y)] 2 = mkF m 0 #[.val (.ref x), .val (.ref y)] [] := by first | (simp [entryFrame, mkF, argsToLocals, Value.category]; done) | rfl
theorem ef_cTrL_0 (m : MethodId) (t : Addr) : entryFrame m #[(.ref t)] 3 = mkF m 0 #[.val (.ref t), .unset, .unset] [] := by first | (simp [entryFrame, mkF, argsToLocals, Value.category]; done) | rfl
theorem ef_cTr_0 (m : MethodId) (x : Addr) : entryFrame m #[(.ref x)] 2 = mkF m 0 #[.val (.ref x), .unset] [] := by first | (simp [entryFrame, mkF, argsToLocals, Value.category]; done) | rfl
theorem ef_cCEc (m : MethodId) (ch : Int32) : entryFrame m #[(.int ch)] 1 = mkF m 0 #[.val (.int ch)] [] := by first | (simp [entryFrame, mkF, argsToLocals, Value.category]; done) | rfl
theorem ef_cTL (m : MethodId) (ch : Int32) : entryFrame m #[(.int ch)] 1 = mkF m 0 #[.val (.int ch)] [] := by first | (simp [entryFrame, mkF, argsToLocals, Value.category]; done) | rfl
theorem ef_cVal (m : MethodId) (ch : Int32) : entryFrame m #[(.int ch)] 1 = mkF m 0 #[.val (.int ch)] [] := by first | (simp [entryFrame, mkF, argsToLocals, Value.category]; done) | rfl
theorem ef_cLe (m : MethodId) (i : Int32) : entryFrame m #[(.int i)] 1 = mkF m 0 #[.val (.int i)] [] := by first | (simp [entryFrame, mkF, argsToLocals, Value.category]; done) | rfl
theorem ef_cCh (m : MethodId) (pj : Int64) (i : Int32) : entryFrame m #[(.long pj), (.int i)] 3 = mkF m 0 #[.val (.long pj), .second, .val (.int i)] [] := by first | (simp [entryFrame, mkF, argsToLocals, Value.category]; done) | rfl
theorem ef_cSemi (m : MethodId) (j : Int32) : entryFrame m #[(.int j)] 1 = mkF m 0 #[.val (.int j)] [] := by first | (simp [entryFrame, mkF, argsToLocals, Value.category]; done) | rfl
theorem ef_cQuo (m : MethodId) (j : Int32) : entryFrame m #[(.int j)] 1 = mkF m 0 #[.val (.int j)] [] := by first | (simp [entryFrame, mkF, argsToLocals, Value.category]; done) | rfl
theorem ef_cSame (m : MethodId) (x : Addr) (q : Addr) (j_2 : Int32) (j_3 : Int32) : entryFrame m #[(.ref x), (.ref q), (.int j_2), (.int j_3)] 5 = mkF m 0 #[.val (.ref x), .val (.ref q), .val (.int j_2), .val (.int j_3), .unset] [] := by first | (simp [entryFrame, mkF, argsToLocals, Value.category]; done) | rfl
theorem ef_cLo (m : MethodId) (q : Addr) (j_1 : Int32) : entryFrame m #[(.ref q), (.int j_1)] 2 = mkF m 0 #[.val (.ref q), .val (.int j_1)] [] := by first | (simp [entryFrame, mkF, argsToLocals, Value.category]; done) | rfl
theorem ef_cHi (m : MethodId) (q : Addr) (j_1 : Int32) : entryFrame m #[(.ref q), (.int j_1)] 2 = mkF m 0 #[.val (.ref q), .val (.int j_1)] [] := by first | (simp [entryFrame, mkF, argsToLocals, Value.category]; done) | rfl
theorem ef_cMxx (m : MethodId) (j_0 : Int32) (j_1 : Int32) : entryFrame m #[(.int j_0), (.int j_1)] 2 = mkF m 0 #[.val (.int j_0), .val (.int j_1)] [] := by first | (simp [entryFrame, mkF, argsToLocals, Value.category]; done) | rfl
theorem ef_cTrd (m : MethodId) (x : Addr) (q : Addr) (j_2 : Int32) : entryFrame m #[(.ref x), (.ref q), (.int j_2)] 5 = mkF m 0 #[.val (.ref x), .val (.ref q), .val (.int j_2), .unset, .unset] [] := by first | (simp [entryFrame, mkF, argsToLocals, Value.category]; done) | rfl
theorem ef_cP0 (m : MethodId) (y : Addr) : entryFrame m #[.null, (.ref y)] 8 = mkF m 0 #[.val .null, .val (.ref y), .unset, .unset, .unset, .unset, .unset, .unset] [] := by first | (simp [entryFrame, mkF, argsToLocals, Value.category]; done) | rfl
theorem ef_cP1 (m : MethodId) (x : Addr) (y : Addr) : entryFrame m #[(.ref x), (.ref y)] 8 = mkF m 0 #[.val (.ref x), .val (.ref y), .unset, .unset, .unset, .unset, .unset, .unset] [] := by first | (simp [entryFrame, mkF, argsToLocals, Value.category]; done) | rfl
theorem ef_cP2 (m : MethodId) (x : Addr) (y : Addr) : entryFrame m #[(.ref x), (.ref y)] 8 = mkF m 0 #[.val (.ref x), .val (.ref y), .unset, .unset, .unset, .unset, .unset, .unset] [] := by first | (simp [entryFrame, mkF, argsToLocals, Value.category]; done) | rfl
theorem ef_cEm (m : MethodId) (x : Addr) : entryFrame m #[(.ref x)] 1 = mkF m 0 #[.val (.ref x)] [] := by first | (simp [entryFrame, mkF, argsToLocals, Value.category]; done) | rfl
theorem ef_cX (m : MethodId) (i0 : Int64) (i1_ : Int64) (sel : Int32) : entryFrame m #[(.long i0), (.long i1_), (.int sel)] maxLocals = mkF m 0 #[.val (.long i0), .second, .val (.long i1_), .second, .val (.int sel), .unset, .unset, .unset, .unset, .unset, .unset, .unset, .unset, .unset, .unset, .unset, .unset, .unset, .unset] [] := by first | (simp [entryFrame, mkF, argsToLocals, Value.category, maxLocals]; done) | rfl
/-- the object at a is a Latin-1 String of the chars cs -/
def LS (Z : State) (h : Heap) (a : Addr) (cs : List Int32) : Prop := ∃ (t : Addr) (kb : ClassId), Exa Z h a "java/lang/String" ∧ Fld Z h a "java/lang/String" "coder" "B" (.int 0) ∧ Fld Z h a "java/lang/String" "value" "[B" (.ref t) ∧ Arv Z h t kb .byte (Int32.ofNat cs.length) ((cs.map StrChars.lo8).map Value.int) (.int 0) ∧ (∀ c ∈ cs, ¬ c < 0 ∧ ¬ (255 : Int32) < c) ∧ cs.length ≤ 4000
theorem LS.ext {Z : State} {h h' : Heap} {a : Addr} {cs : List Int32} (F : LS Z h a cs) (E : Ext h h') : LS Z h' a cs := by
  obtain ⟨t, kb, f1, f2, f3, f4, f5⟩ := F; exact ⟨t, kb, f1.ext E, f2.ext E, f3.ext E, f4.ext E, f5⟩
theorem LS.exa {Z : State} {h : Heap} {a : Addr} {cs : List Int32} (F : LS Z h a cs) : Exa Z h a "java/lang/String" := by obtain ⟨t, kb, f1, -⟩ := F; exact f1
theorem LS.lt {Z : State} {h : Heap} {a : Addr} {cs : List Int32} (F : LS Z h a cs) : a < h.size := F.exa.lt
theorem up255 {cs : List Int32} (h : ∀ c ∈ cs, ¬ c < 0 ∧ ¬ (255 : Int32) < c) : ∀ c ∈ cs, ¬ c < 0 ∧ ¬ (65535 : Int32) < c := fun c hc => ⟨(h c hc).1, fun q => (h c hc).2 (Int32.lt_trans (by decide) q)⟩
section Wide
variable {p : Program} {l : Launch} {e : Env} {R : Room} {m : MethodId} {args : Array Value} {below : List Frame} {meth : Method} {c : Code} {own : String} {bytes : ByteArray} {maxL : Nat} {Z s s' T : State} {EL : List (String × Nat)} {locs : List Loc} {cells slots : Nat} {h h' : Heap} {G : Outcome → State → Prop} {pc : Nat} {Ls : Array Slot} {S : List Value} {a0 : Array Value} {Q : Option Value → Heap → List Loc → Prop} {ck sk : Nat} {a : Addr} {sl : Nat} {v : Value} {ws : List Addr}
/-- the invariant of a walk that may load literals: the tables have gone on from s's, and the constants of EL say their texts -/
def WI (Z : State) (EL : List (String × Nat)) (s : State) : State → Heap → Prop := fun s' h => ∃ vm0 k0, s' = s.setVm vm0 ∧ s.Since vm0 k0 ∧ k0 ≤ h.size ∧ CHr Z EL s.vm s.heap vm0 h
theorem WI.ext (H : WI Z EL s s' h) (E : Ext h h') : WI Z EL s s' h' := by
  obtain ⟨vm0, k0, q1, q2, q3, q4⟩ := H; exact ⟨vm0, k0, q1, q2, Nat.le_trans q3 E.1, q4.trans (CHr.ext E q4.1)⟩
theorem WI.wr (H : WI Z EL s s' h) (S : Safe Z EL s'.vm h a) (W : Wr h h' a sl v) : WI Z EL s s' h' := by
  obtain ⟨vm0, k0, rfl, q2, q3, q4⟩ := H
  exact ⟨vm0, k0, rfl, q2, by rw [W.size]; exact q3, q4.trans (CHr.wr W S q4.1)⟩
theorem WI.keep (H : WI Z EL s s' h) (S : ∀ x ∈ ws, Safe Z EL s'.vm h x) (K : Keep h h' ws) : WI Z EL s s' h' := by
  obtain ⟨vm0, k0, rfl, q2, q3, q4⟩ := H
  exact ⟨vm0, k0, rfl, q2, Nat.le_trans q3 K.1, q4.trans (CHr.keep K S q4.1)⟩
/-- what a walk that may load literals ends in -/
def WG (Z : State) (EL : List (String × Nat)) (s : State) (Q : Option Value → Heap → List Loc → Prop) (ck sk : Nat) : Outcome → State → Prop := fun o U' => ∃ v L, o = .returned v ∧ Q v U'.heap L ∧ CHr Z EL s.vm s.heap U'.vm U'.heap ∧ ReturnedEndW s o U' L ck sk
theorem r_genw (D : Wk p l e R m args below meth c own bytes maxL Z (WI Z EL s) s' T locs cells slots h) (hEW : EW Z a0 EL) {v : Option Value} (hv : meth.sig.returnType = none → v = none) (hlk : meth.locks = false) (hst : ∀ fs, (∀ (f : JFrame) (acts : List Action), f.method = m → f.locked = none → f.entered = [] → (doReturn e (T.setTop f) acts v).1 = T.setFrames fs) → Steps p.tables e below (T.setTop (mkF m pc Ls S)) (T.setFrames fs)) (hQ : Q v h locs) (hc : cells ≤ ck) (hs : slots ≤ sk) : Go p e below (WG Z EL s Q ck sk) (T.setTop (mkF m pc Ls S)) := by
  obtain ⟨vm0, k0, rfl, q2, q3, q4⟩ := D.iv
  obtain ⟨fs, hr, hrun, hended, hW⟩ := D.st.leaveW q2 (by rw [D.eq]; exact q3) (v := v) hv hlk
  refine ⟨_, _, hst fs hr, hrun, hended, _, _, rfl, ?_, ?_, hW.1, hW.2.1, hW.2.2.1, hW.2.2.2.mono hc hs⟩
  · show Q v T.heap locs
    rw [D.eq]; exact hQ
  · show CHr Z EL s.vm s.heap T.vm T.heap
    rw [D.eq]; exact q4.trans (CHv.at D.st D.wm hEW q4.1)
theorem r_Nw (D : Wk p l e R m args below meth c own bytes maxL Z (WI Z EL s) s' T locs cells slots h) (hEW : EW Z a0 EL) {t : FieldType} {z : Int32} (hret : meth.sig.returnType = some t) (ht : t = .boolean ∨ t = .byte ∨ t = .char ∨ t = .short) (hlk : meth.locks = false) (hd : decode bytes pc = .ok (.ireturn, 1)) (hQ : Q (some (.int (nar t z))) h locs) (hc : cells ≤ ck) (hs : slots ≤ sk) : Go p e below (WG Z EL s Q ck sk) (T.setTop (mkF m pc Ls (.int z :: S))) :=
  r_genw D hEW (fun h => by rw [hret] at h; cases h) hlk (fun fs hr => retN D.st D.ex hret ht (hb D.cb hd) hr) hQ hc hs
theorem r_Aw (D : Wk p l e R m args below meth c own bytes maxL Z (WI Z EL s) s' T locs cells slots h) (hEW : EW Z a0 EL) {t : FieldType} {w : Value} (hret : meth.sig.returnType = some t) (ht : t.isReference = true) (hw : w.isRef = true) (hlk : meth.locks = false) (hd : decode bytes pc = .ok (.areturn, 1)) (hQ : Q (some w) h locs) (hc : cells ≤ ck) (hs : slots ≤ sk) : Go p e below (WG Z EL s Q ck sk) (T.setTop (mkF m pc Ls (w :: S))) :=
  r_genw D hEW (fun h => by rw [hret] at h; cases h) hlk (fun fs hr => retOut D.st D.ex hret (by cases t <;> first | (cases ht; done) | rfl) (Or.inr (Or.inr (Or.inr (Or.inr ⟨rfl, ht, hw⟩)))) (hb D.cb hd) hr) hQ hc hs
/-- a contract of a body that may load literals -/
abbrev ConW (l : Launch) (y : MethodName) (bytes : ByteArray) (maxL : Nat) (ret : Option FieldType) (ws : List Jvm.Cond) (rm : Room) (Z : State) (EL : List (String × Nat)) (as' : Array Value) (h0 : Heap) (Q : Option Value → Heap → List Loc → Prop) (ck sk : Nat) : Prop :=
  MetFree l y (head1 (Jvm.Cond.code y bytes maxL ret :: ws) rm) (fun a U => a = as' ∧ Z.Warmed39 U.vm ∧ U.heap = h0 ∧ CHv Z EL U.vm h0) (fun _ _ _ _ _ => True) (fun _ U o U' => ∃ v L, o = .returned v ∧ Q v U'.heap L ∧ CHr Z EL U.vm U.heap U'.vm U'.heap ∧ ReturnedEndW U o U' L ck sk)
theorem enterW {y : MethodName} {ret : Option FieldType} {ws : List Jvm.Cond} {rm : Room} {as' : Array Value} {h0 : Heap} (hpl : plainFor y = true)
    (k : ∀ p e s m below meth c s₁, meth.name = y.name → meth.sig.returnType = ret → meth.locks = false → Wk p l e rm m as' below meth c y.cls bytes maxL Z (WI Z EL s) s s₁ [] 0 0 h0 → Go p e below (WG Z EL s Q ck sk) (s₁.setTop (entryFrame m as' maxL))) :
    ConW l y bytes maxL ret ws rm Z EL as' h0 Q ck sk := by
  refine MetFree.of_bodySF hpl hisR ?_
  intro p e s m args below meth c s₁ Bd hml0 hP hK
  obtain ⟨rfl, hZ, hh, hC⟩ := hP
  have X0 : Stand p l e rm s m _ below meth c s₁ [] 0 0 := Stand.of_body Bd
  exact k p e s m below meth c s₁ (name_of_methodNamed Bd.named Bd.method).1 Bd.returns Bd.notSynchronized ⟨X0, by rw [← hh, Bd.state]; rfl, hZ, findClass_of_methodNamed Bd.named, Bd.exec, Bd.bytes, hml0, s.vm, s.heap.size, (State.setVm_self s).symm, (State.WarmedH.refl s).since _, by rw [hh]; exact Nat.le_refl _, by rw [hh]; exact CHr.refl hC⟩
theorem g_callSW (D : Wk p l e R m args below meth c own bytes maxL Z (WI Z EL s) s' T locs cells slots h) (pc' : Nat) {index : Nat} {y : MethodName} {bz : ByteArray} {mL : Nat} {ret' : Option FieldType} {rm : Room} {as' : Array Value} (hEW : EW Z a0 EL) (w1 : (Cond.methodLink own index y).before a0 Z = true) (w2 : (Cond.static y).before a0 Z = true) (w3 : (Cond.initialized y.cls).before a0 Z = true) (w4 : (Cond.code y bz mL ret').before a0 Z = true) (hy : y.cls ≠ "java/lang/invoke/MethodHandle" ∧ y.cls ≠ "java/lang/invoke/VarHandle")
    (hM : ConW l y bz mL ret' [] rm Z EL as' h Q rm.cells rm.slots) (hsz : Ls.size = maxL) (argsL : List Value) (has : argsL.toArray = as') (hlen : ∀ sig, parseMethodDescriptor y.desc = some sig → argsL.length = sig.parameters.length) {S0 : List Value} (hst : S0 = argsL.reverse ++ S) (W : Nat) (hW : (S.map fun v => v.category).sum ≤ W) (hf : rm.frames + 1 ≤ R.frames) (hlo : W + (mL + 11) + rm.locals ≤ R.locals) (hc : cells + rm.cells ≤ R.cells) (hl : slots + rm.slots ≤ R.slots) (hd : decode bytes pc = .ok (.invokestatic index, 3)) (hp : pc + 3 = pc')
    (hr : ∀ v s'' T' h' L, Q v h' L → (∀ x, x < h.size → Safe Z EL s'.vm h x → Safe Z EL s''.vm h' x) → Wk p l e R m args below meth c own bytes maxL Z (WI Z EL s) s'' T' (locs ++ L) (cells + rm.cells) (slots + rm.slots) h' → Go p e below G (T'.setTop (mkF m pc' Ls (v.toList ++ S)))) : Go p e below G (T.setTop (mkF m pc Ls S0)) := by
  subst hp hst
  obtain ⟨vm0, k0, rfl, q2, q3, q4⟩ := D.iv
  obtain ⟨v, _, ⟨T', L', k', n'⟩, -, X', hS', hg, ⟨L, hQ, l', y', z', hR⟩, st⟩ := callSS D.st D.ex D.ow (mvT D.wm w1) (mvT D.wm w2) (mvT D.wm w3) (mvT D.wm w4) hy (backOfSH (s := s) (W := W) hM D.wm w4 w3 hf hlo hEW q4.1) (g := mkF m pc Ls (argsL.reverse ++ S)) rfl (by rw [D.ml]; exact hsz) (argsL := argsL) (rest := S) hlen rfl (by simpa using hW) (hb D.cb hd) (fun _ _ => ⟨has, D.eq, hc, hl⟩)
  dsimp only at X' l' y' z' st hQ hS' hg hR
  subst l' y' z'
  obtain ⟨X2, S2, Z2, O2⟩ := rebS q2 (n1 := T.heap.size) (by rw [D.eq]; exact q3) X' hS' hg D.wm D.ow
  exact Go.mono (fun t k => st.trans k) (hr v (s.setVm T'.vm) T' T'.heap L hQ (fun x hx Sx => hR.safe hx Sx) ⟨X2, rfl, Z2, O2, D.ex, D.cb, D.ml, T'.vm, _, rfl, S2, Nat.le_refl _, q4.trans hR⟩)
theorem g_callVW (D : Wk p l e R m args below meth c own bytes maxL Z (WI Z EL s) s' T locs cells slots h) (pc' : Nat) {index : Nat} {y z : MethodName} {C : String} {bz : ByteArray} {mL : Nat} {ret' : Option FieldType} {rm : Room} {as' : Array Value} (hEW : EW Z a0 EL) (w1 : (Cond.methodLink own index y).before a0 Z = true) (w2 : (Cond.declares y).before a0 Z = true) (hnf : NotFace s' y) (w6 : (Cond.selects C y z).before a0 Z = true) (w7 : (Cond.instanceMethod z).before a0 Z = true) (w3 : (Cond.initialized z.cls).before a0 Z = true) (w4 : (Cond.code z bz mL ret').before a0 Z = true) (hy : y.cls ≠ "java/lang/invoke/MethodHandle" ∧ y.cls ≠ "java/lang/invoke/VarHandle")
    (hM : ConW l z bz mL ret' [] rm Z EL as' h Q rm.cells rm.slots) {b : Addr} (E : Exa Z h b C) (hsz : Ls.size = maxL) (argsL : List Value) (has : (.ref b :: argsL).toArray = as') (hlen : ∀ sig, parseMethodDescriptor y.desc = some sig → argsL.length = sig.parameters.length) {S0 : List Value} (hst : S0 = argsL.reverse ++ .ref b :: S) (W : Nat) (hW : (S.map fun v => v.category).sum ≤ W) (hf : rm.frames + 1 ≤ R.frames) (hlo : W + (mL + 11) + rm.locals ≤ R.locals) (hc : cells + rm.cells ≤ R.cells) (hl : slots + rm.slots ≤ R.slots) (hd : decode bytes pc = .ok (.invokevirtual index, 3)) (hp : pc + 3 = pc')
    (hr : ∀ v s'' T' h' L, Q v h' L → (∀ x, x < h.size → Safe Z EL s'.vm h x → Safe Z EL s''.vm h' x) → Wk p l e R m args below meth c own bytes maxL Z (WI Z EL s) s'' T' (locs ++ L) (cells + rm.cells) (slots + rm.slots) h' → Go p e below G (T'.setTop (mkF m pc' Ls (v.toList ++ S)))) : Go p e below G (T.setTop (mkF m pc Ls S0)) := by
  subst hp hst
  obtain ⟨cq, kq, qa, qb, qc⟩ := isOf D.wm D.eq E
  obtain ⟨vm0, k0, rfl, q2, q3, q4⟩ := D.iv
  obtain ⟨v, _, ⟨T', L', k', n'⟩, -, X', hS', hg, ⟨L, hQ, l', y', z', hR⟩, st⟩ := D.st.virtualBackS D.ex (y := y) (z := z) D.ow (mvT D.wm w1) (mvT D.wm w2) hnf (mvT D.wm w6) (mvT D.wm w7) hy (backOfSH (s := s) (W := W) hM D.wm w4 w3 hf hlo hEW q4.1) qa qc (g := mkF m pc Ls (argsL.reverse ++ .ref b :: S)) rfl (by rw [D.ml]; exact hsz) (Steps.refl _) (argsL := argsL) (rest := S) hlen rfl (by simpa using hW) (hb D.cb hd) (fun _ _ => ⟨has, D.eq, hc, hl⟩)
  dsimp only at X' l' y' z' st hQ hS' hg hR
  subst l' y' z'
  obtain ⟨X2, S2, Z2, O2⟩ := rebS q2 (n1 := T.heap.size) (by rw [D.eq]; exact q3) X' hS' hg D.wm D.ow
  exact Go.mono (fun t k => st.trans k) (hr v (s.setVm T'.vm) T' T'.heap L hQ (fun x hx Sx => hR.safe hx Sx) ⟨X2, rfl, Z2, O2, D.ex, D.cb, D.ml, T'.vm, _, rfl, S2, Nat.le_refl _, q4.trans hR⟩)
theorem g_ldcS (D : Wk p l e R m args below meth c own bytes maxL Z (WI Z EL s) s' T locs cells slots h) (pc' : Nat) {text : String} {index : Nat} (hEW : EW Z a0 EL) (w : (Cond.stringLink own index text).before a0 Z = true) (wS : ∀ a ∈ Bundle.stringAtoms, a.before a0 Z = true) (hmem : (own, index) ∈ EL) (cs : List Int32) (n : Nat) (ht : (∀ c ∈ text.toList, c.toNat < 256) ∧ text.toList.map (fun c => Value.int (Jvm.Lit.byteI c.toNat.toUInt16)) = (cs.map StrChars.lo8).map Value.int) (hcs : (∀ c ∈ cs, ¬ c < 0 ∧ ¬ (255 : Int32) < c) ∧ cs.length ≤ 4000) (hn : 4 * text.toList.length ≤ n) (hbig : n ≤ 536870912) (hd : decode bytes pc = .ok (.ldc index, 2)) (hc : cells + 2 ≤ R.cells) (hl : slots + (n + 4) ≤ R.slots) (hp : pc + 2 = pc')
    (hr : ∀ s'' T' h' a t kb, Ext h h' → Exa Z h' a "java/lang/String" → Fld Z h' a "java/lang/String" "coder" "B" (.int 0) → Fld Z h' a "java/lang/String" "value" "[B" (.ref t) → Arv Z h' t kb .byte (Int32.ofNat cs.length) ((cs.map StrChars.lo8).map Value.int) (.int 0) → (∀ x, Safe Z EL s''.vm h' x → x ≠ a ∧ x ≠ t) → (∀ x, x < h.size → Safe Z EL s'.vm h x → Safe Z EL s''.vm h' x) → Wk p l e R m args below meth c own bytes maxL Z (WI Z EL s) s'' T' locs (cells + 2) (slots + (n + 4)) h' → Go p e below G (T'.setTop (mkF m pc' Ls (.ref a :: S)))) : Go p e below G (T.setTop (mkF m pc Ls S)) := by
  subst hp
  obtain ⟨vm0, k0, rfl, q2, q3, q4⟩ := D.iv
  have hz : ¬ (Int32.ofNat cs.length) < 0 := by
    have q : (Int32.ofNat cs.length).toInt = cs.length := Int32.toInt_ofNat_small (by omega)
    rw [Int32.lt_iff_toInt_lt, q, show (0 : Int32).toInt = 0 from rfl]; omega
  have hz2 : (Int32.ofNat cs.length).toNatClampNeg = ((cs.map StrChars.lo8).map Value.int).length := by
    have q : (Int32.ofNat cs.length).toInt = cs.length := Int32.toInt_ofNat_small (by omega)
    simp only [Int32.toNatClampNeg, q, List.length_map]; omega
  obtain ⟨a, T', h', k1, b, k, X', e', E', S', hk', Z', O', x1, x2, x3, x4, -, -, hR, -, hsf, st⟩ := ldcCH (s := s) D.st D.ex D.wm D.ow w wS D.eq q2 q3 hEW hmem q4.1 ht hz hz2 (g := mkF m pc Ls S) rfl (hb D.cb hd) hn hbig hc hl
  exact Go.mono st (hr (s.setVm T'.vm) T' h' a b k E' x1 x2 x3 x4 hsf (fun x hx Sx => hR.safe hx Sx) ⟨X', e', Z', O', D.ex, D.cb, D.ml, T'.vm, k1, rfl, S', hk', q4.trans hR⟩)
/-- the same, where the contract speaks of the tables at the end too -/
def WGv (Z : State) (EL : List (String × Nat)) (s : State) (Q : Option Value → Vm → Heap → List Loc → Prop) (ck sk : Nat) : Outcome → State → Prop := fun o U' => ∃ v L, o = .returned v ∧ Q v U'.vm U'.heap L ∧ CHr Z EL s.vm s.heap U'.vm U'.heap ∧ ReturnedEndW s o U' L ck sk
abbrev ConV (l : Launch) (y : MethodName) (bytes : ByteArray) (maxL : Nat) (ret : Option FieldType) (ws : List Jvm.Cond) (rm : Room) (Z : State) (EL : List (String × Nat)) (as' : Array Value) (h0 : Heap) (Q : Option Value → Vm → Heap → List Loc → Prop) (ck sk : Nat) : Prop :=
  MetFree l y (head1 (Jvm.Cond.code y bytes maxL ret :: ws) rm) (fun a U => a = as' ∧ Z.Warmed39 U.vm ∧ U.heap = h0 ∧ CHv Z EL U.vm h0) (fun _ _ _ _ _ => True) (fun _ U o U' => ∃ v L, o = .returned v ∧ Q v U'.vm U'.heap L ∧ CHr Z EL U.vm U.heap U'.vm U'.heap ∧ ReturnedEndW U o U' L ck sk)
end Wide
theorem safe_null {Z : State} {EL : List (String × Nat)} {vm : Vm} {h : Heap} {x : Addr} (hal : Z.vm.Alike vm) (E : Exa Z h x "java/lang/String") (V : Fld Z h x "java/lang/String" "value" "[B" .null) : Safe Z EL vm h x := fun B => by
  obtain ⟨p, -, u, a, -, q, -, F, rfl | rfl⟩ := B
  · obtain ⟨cell, cf, k, i, f, h1, h2, -, -, -, -, h7⟩ := V
    cases (show h[q.sa]? = some q.sC from F.ha).symm.trans h1
    obtain ⟨cS, ⟨⟨-, -, -, ⟨c1, k1, i1, f1, -⟩, -, -, -, v1, -⟩, -⟩, -⟩ := F
    obtain ⟨k3, e3, -⟩ := State.fieldFound?_setVm (s := Z) hal h2
    have e4 := (show (Wst Z vm h).fieldFound? _ _ _ = _ from e3).symm.trans f1
    simp only [Option.some.injEq, Prod.mk.injEq] at e4
    rw [e4.2.2.2, v1] at h7
    cases h7
  · obtain ⟨cell, k, e1, e2, e3, -, -⟩ := E
    cases (show h[q.sd]? = some q.SA from F.hd).symm.trans e1
    obtain ⟨cS, -, -, f, -⟩ := F
    have f' : vm.findClass "[B" = some q.SA.cls := f
    rw [hal.findClass] at f'
    obtain ⟨k1, q1, q2⟩ := Vm.findClass_spec f'
    obtain ⟨k2, q3, q4⟩ := Vm.findClass_spec e2
    cases q1.symm.trans q3
    exact absurd (q2.symm.trans q4) (by decide)
theorem Keep.toExt {h h' : Heap} (K : Keep h h' []) : Ext h h' := ⟨K.1, fun a c q => K.2.1 a c q nin0⟩
theorem Ext.trans' {h h1 h2 : Heap} (E : Ext h h1) (F : Ext h1 h2) : Ext h h2 := ⟨Nat.le_trans E.1 F.1, fun a c q => F.2 a c (E.2 a c q)⟩
/-- a char below 256 -/
abbrev B8 (c : Int32) : Prop := ¬ c < 0 ∧ ¬ (255 : Int32) < c
theorem b8_nil : ∀ c ∈ ([] : List Int32), B8 c := fun _ q => nomatch q
theorem b8_cons {a : Int32} {L : List Int32} (h : B8 a) (r : ∀ c ∈ L, B8 c) : ∀ c ∈ a :: L, B8 c := fun c q => (List.mem_cons.mp q).elim (fun e => e ▸ h) (r c)
theorem i2c_ch {c : Int32} (h0 : ¬ c < 0) (h1 : ¬ (65535 : Int32) < c) : c.toUInt32.toUInt16.toUInt32.toInt32 = c := by
  rw [Int32.lt_iff_toInt_lt, show (0 : Int32).toInt = 0 from rfl] at h0
  rw [Int32.lt_iff_toInt_lt, show (65535 : Int32).toInt = 65535 from rfl] at h1
  have e : c.toInt = c.toBitVec.toNat := by
    have q : c.toInt = c.toBitVec.toInt := rfl
    have lt := c.toBitVec.isLt
    rw [q, BitVec.toInt_eq_toNat_cond] at h0
    rw [q, BitVec.toInt_eq_toNat_cond]
    by_cases g : 2 * c.toBitVec.toNat < 2 ^ 32
    · rw [if_pos g]
    · rw [if_neg g] at h0; omega
  apply Int32.toBitVec_inj.mp
  apply BitVec.eq_of_toNat_eq
  show (c.toUInt32.toUInt16.toUInt32).toBitVec.toNat = _
  have q : (c.toUInt32.toUInt16.toUInt32).toNat = c.toUInt32.toNat % 65536 := by simp
  have q2 : c.toUInt32.toNat = c.toBitVec.toNat := rfl
  show (c.toUInt32.toUInt16.toUInt32).toNat = _
  rw [q, q2]; omega
theorem nar_c {c : Int32} (h : B8 c) : nar .char c = c := i2c_ch h.1 (fun q => h.2 (Int32.lt_trans (by decide) q))
theorem b8_and (x : Int32) : B8 (x &&& (255 : Int32)) := by
  have h : (x &&& 255).toBitVec.toNat < 256 := by
    simp only [Int32.toBitVec_and, BitVec.toNat_and]
    exact Nat.lt_succ_of_le Nat.and_le_right
  have e : (x &&& 255).toInt = (x &&& 255).toBitVec.toNat := by
    show (x &&& 255).toBitVec.toInt = _
    rw [BitVec.toInt_eq_toNat_cond, if_pos (by omega)]
  show ¬ (x &&& 255) < 0 ∧ ¬ (255 : Int32) < (x &&& 255)
  rw [Int32.lt_iff_toInt_lt, Int32.lt_iff_toInt_lt, e, show (0 : Int32).toInt = 0 from rfl, show (255 : Int32).toInt = 255 from rfl]
  omega
theorem and_le (x : Int32) {k : Int32} {K : Nat} (hk : k.toBitVec.toNat = K) (hK : K < 2147483648) : 0 ≤ (x &&& k).toInt ∧ (x &&& k).toInt ≤ K := by
  have h : (x &&& k).toBitVec.toNat ≤ K := by
    simp only [Int32.toBitVec_and, BitVec.toNat_and]
    rw [← hk]; exact Nat.and_le_right
  have e : (x &&& k).toInt = (x &&& k).toBitVec.toNat := by
    show (x &&& k).toBitVec.toInt = _
    rw [BitVec.toInt_eq_toNat_cond, if_pos (by omega)]
  rw [e]; omega
theorem i2c_b8 {c : Int32} (h : B8 c) : c.toUInt32.toUInt16.toUInt32.toInt32 = c := i2c_ch h.1 (fun q => h.2 (Int32.lt_trans (by decide) q))
theorem b8_i2c (x : Int32) : B8 ((x &&& (255 : Int32)).toUInt32.toUInt16.toUInt32.toInt32) := by rw [i2c_b8 (b8_and x)]; exact b8_and x
theorem own_r1 : some (Value.int (nar .boolean (1 : Int32))) = some (Value.int 1) := by decide
theorem own_nar1 : nar .boolean (1 : Int32) = 1 := by decide
theorem own_nar0 : nar .boolean (0 : Int32) = 0 := by decide
/-- a boolean that says whether P -/
def own_B (P : Prop) (v : Option Value) : Prop := ∃ r : Int32, v = some (.int r) ∧ ((r = 1 ∧ P) ∨ (r = 0 ∧ ¬ P))
def own_R (P : Prop) (r : Int32) : Prop := (r = 1 ∧ P) ∨ (r = 0 ∧ ¬ P)
theorem own_R.same {P Q : Prop} {r t : Int32} (h : own_R P r) (k : own_R Q t) (e : P ↔ Q) : r = t := by
  rcases h with ⟨rfl, p⟩ | ⟨rfl, p⟩ <;> rcases k with ⟨rfl, q⟩ | ⟨rfl, q⟩
  · rfl
  · exact absurd (e.mp p) q
  · exact absurd (e.mpr q) p
  · rfl
theorem own_R.no {P : Prop} {r : Int32} (h : own_R P r) (p : ¬ P) : r = 0 := by rcases h with ⟨-, n⟩ | ⟨h, -⟩; exact absurd n p; exact h
theorem wsa : ∀ d ∈ Bundle.stringAtoms, d ∈ tables_1 := by decide +kernel
theorem wbv : ∀ d ∈ StrChars.Road.words, d ∈ tables_1 := by decide +kernel
abbrev C16 (c : Int32) : Prop := ¬ c < 0 ∧ ¬ (65535 : Int32) < c
/-- the object at a is a String of the chars cs, by the coder that the JDK takes -/
def TS (Z : State) (h : Heap) (a : Addr) (cs : List Int32) : Prop := ∃ (t : Addr) (kb : ClassId) (cd N2 : Int32) (vs : List Value), Exa Z h a "java/lang/String" ∧ Fld Z h a "java/lang/String" "coder" "B" (.int cd) ∧ Fld Z h a "java/lang/String" "value" "[B" (.ref t) ∧ Arv Z h t kb .byte N2 vs (.int 0) ∧ StrChars.Road.CodA cs cd N2 vs ∧ (∀ c ∈ cs, C16 c) ∧ cs.length ≤ 4000
theorem TS.ext {Z : State} {h h' : Heap} {a : Addr} {cs : List Int32} (F : TS Z h a cs) (E : Ext h h') : TS Z h' a cs := by
  obtain ⟨t, kb, cd, N2, vs, f1, f2, f3, f4, f5⟩ := F; exact ⟨t, kb, cd, N2, vs, f1.ext E, f2.ext E, f3.ext E, f4.ext E, f5⟩
theorem TS.exa {Z : State} {h : Heap} {a : Addr} {cs : List Int32} (F : TS Z h a cs) : Exa Z h a "java/lang/String" := by obtain ⟨t, kb, cd, N2, vs, f1, -⟩ := F; exact f1
theorem LS.ts {Z : State} {h : Heap} {a : Addr} {cs : List Int32} (F : LS Z h a cs) : TS Z h a cs := by
  obtain ⟨t, kb, f1, f2, f3, f4, f5, f6⟩ := F
  exact ⟨t, kb, 0, _, _, f1, f2, f3, f4, StrChars.Road.codOf rfl (fun c hc => (f5 c hc).2), up255 f5, f6⟩
theorem nb_b (c : Int32) : nar .byte (c.toInt8.toInt32) = StrChars.lo8 c := by simp [nar, StrChars.lo8]
theorem wlen : ∀ d ∈ StrChars.Road.wordsLen, d ∈ tables_1 := by decide +kernel
theorem TS.lenB {p : Program} {l : Launch} {e : Env} {R : Room} {m : MethodId} {args : Array Value} {below : List Frame} {meth : Method} {c : Code} {own : String} {bytes : ByteArray} {maxL : Nat} {Z : State} {I : State → Heap → Prop} {s' T : State} {locs : List Loc} {cells slots : Nat} {h h1 : Heap} {a0 : Array Value} {x : Addr} {cs : List Int32} {z : Int32} (W : Nat) {len : Nat}
    (D : Wk p l e R m args below meth c own bytes maxL Z I s' T locs cells slots h1) (hw : ∀ d ∈ tables_1, d.before a0 Z = true) (A : TS Z h x cs) (S : Sta Z h "java/lang/String" "COMPACT_STRINGS" "Z" (.int z)) (hz : ¬ z = 0) (hf : 2 ≤ R.frames) (hl : W + 25 ≤ R.locals) :
    Back l R p e below s' args (⟨"java/lang/String", "length", "()I"⟩ : MethodName) len W (fun P a => a = #[.ref x] ∧ P.U.heap = h ∧ P.cells + 0 ≤ R.cells ∧ P.slots + 0 ≤ R.slots)
      (fun P _ v B => ∃ L, (v = some (.int (Int32.ofNat cs.length)) ∧ L = [] ∧ B.U.heap = h) ∧ B.locs = P.locs ++ L ∧ B.cells = P.cells + 0 ∧ B.slots = P.slots + 0) := by
  obtain ⟨t, kb, cd, N2, vs, f1, f2, f3, f4, f5, f6, f7⟩ := A
  exact StrChars.Road.lenW D.wm (fun d hd => hw d (wlen d hd)) (kI := 4) (hw _ w_14) f1 f3 f2 f4 f5 f6 S hz f7 hf hl
section Sup
variable {p : Program} {l : Launch} {e : Env} {R : Room} {m : MethodId} {args : Array Value} {below : List Frame} {meth : Method} {c : Code} {own : String} {bytes : ByteArray} {maxL : Nat} {Z : State} {I : State → Heap → Prop} {s' T : State} {locs : List Loc} {cells slots : Nat} {h : Heap} {G : Outcome → State → Prop} {pc : Nat} {Ls : Array Slot} {S : List Value} {a0 : Array Value}
end Sup
theorem own_clamp {n : Nat} (h : n ≤ 4000) : (Int32.ofNat n).toNatClampNeg = n := by
  simp only [Int32.toNatClampNeg, Int32.toInt_ofNat_small (show n < 2 ^ 31 by omega)]; omega
theorem own_nneg {n : Nat} (h : n ≤ 4000) : ¬ Int32.ofNat n < 0 := Int32.ofNat_not_neg (by omega)
theorem own_add {a b : Nat} : Int32.ofNat a + Int32.ofNat b = Int32.ofNat (a + b) := (Int32.ofNat_add a b).symm
theorem own_tail {us : List Value} {n : Nat} {z : Value} (h : n ≤ 4000) : (List.replicate n z).take (0 : Int32).toNatClampNeg ++ us ++ (List.replicate n z).drop ((0 : Int32).toNatClampNeg + (Int32.ofNat n).toNatClampNeg) = us := by
  rw [own_clamp h, show (0 : Int32).toNatClampNeg = 0 from rfl]; simp
theorem own_ofadd1 (i : Nat) : Int32.ofNat i + (1 : Int32) = Int32.ofNat (i + 1) := (Int32.ofNat_add i 1).symm
theorem own_lt {a b : Nat} (ha : a ≤ 4000) (hb : b ≤ 4000) : Int32.ofNat a < Int32.ofNat b ↔ a < b := by
  rw [Int32.lt_iff_toInt_lt, Int32.toInt_ofNat_small (by omega), Int32.toInt_ofNat_small (by omega)]; omega
theorem own_inj {a b : Nat} (ha : a ≤ 4000) (hb : b ≤ 4000) (h : Int32.ofNat a = Int32.ofNat b) : a = b := by
  have q := congrArg Int32.toInt h
  rw [Int32.toInt_ofNat_small (by omega), Int32.toInt_ofNat_small (by omega)] at q; omega
theorem own_subN {a b : Nat} (h : a ≤ b) : Int32.ofNat b - Int32.ofNat a = Int32.ofNat (b - a) := by
  have q : Int32.ofNat (b - a) + Int32.ofNat a = Int32.ofNat b := by rw [← Int32.ofNat_add]; congr 1; omega
  rw [← q]; exact Int32.add_sub_cancel _ _
theorem own_at {cs : List Int32} {i : Nat} (hi : i < cs.length) (h4 : cs.length ≤ 4000) {d : Value} : ((cs.map StrChars.lo8).map Value.int).getD (Int32.ofNat i).toNatClampNeg d = .int (StrChars.lo8 (cs.getD i 0)) := by
  rw [own_clamp (by omega)]; simp [List.getD_eq_getElem?_getD, hi]
theorem own_b8at {cs : List Int32} {i : Nat} (h : ∀ c ∈ cs, B8 c) (hi : i < cs.length) : B8 (cs.getD i 0) := by
  have e : cs.getD i 0 = cs[i] := by simp [List.getD_eq_getElem?_getD, hi]
  rw [e]; exact h _ (List.getElem_mem _)
/-- where k stands first in cs at or behind f -/
def IXR (cs : List Int32) (k : Int32) (f : Nat) (r : Int32) : Prop := (∃ j, f ≤ j ∧ j < cs.length ∧ r = Int32.ofNat j ∧ cs.getD j 0 = k ∧ ∀ i, f ≤ i → i < j → cs.getD i 0 ≠ k) ∨ (r = (-1 : Int32) ∧ ∀ i, f ≤ i → i < cs.length → cs.getD i 0 ≠ k)
theorem IXR.is {cs : List Int32} {k : Int32} {f : Nat} {r : Int32} (h : IXR cs k f r) {j : Nat} (h1 : f ≤ j) (h2 : j < cs.length) (h3 : cs.getD j 0 = k) (h4 : ∀ i, f ≤ i → i < j → cs.getD i 0 ≠ k) : r = Int32.ofNat j := by
  rcases h with ⟨i, g1, g2, g3, g4, g5⟩ | ⟨-, g⟩
  · rcases Nat.lt_trichotomy i j with q | q | q
    · exact absurd g4 (h4 i g1 q)
    · rw [g3, q]
    · exact absurd h3 (g5 j h1 q)
  · exact absurd h3 (g j h1 h2)
theorem IXR.no {cs : List Int32} {k : Int32} {f : Nat} {r : Int32} (h : IXR cs k f r) (h4 : ∀ i, f ≤ i → i < cs.length → cs.getD i 0 ≠ k) : r = (-1 : Int32) := by
  rcases h with ⟨i, g1, g2, g3, g4, g5⟩ | ⟨g, -⟩
  · exact absurd g4 (h4 i g1 g2)
  · exact g
theorem own_usN {vs : List Value} {a n : Nat} {d : Value} (ha : a ≤ 4000) (hn : n ≤ 4000) (h : a + n ≤ vs.length) : (vs.drop a).take n = (List.range (Int32.ofNat n).toNatClampNeg).map fun i => vs.getD ((Int32.ofNat a).toNatClampNeg + i) d := by
  rw [own_clamp hn, own_clamp ha]
  apply List.ext_getElem
  · simp; omega
  · intro i h1 h2
    have hi : i < n := by simpa using h2
    have hi' : a + i < vs.length := by omega
    simp [List.getD_eq_getElem?_getD, hi']
theorem own_pos {n : Nat} (h : 0 < n) (h4 : n ≤ 4000) : ¬ Int32.ofNat n = (0 : Int32) := fun q => by
  have := own_inj (b := 0) h4 (by omega) q; omega
theorem own_map {cs : List Int32} {a n : Nat} : (((cs.map StrChars.lo8).map Value.int).drop a).take n = ((((cs.drop a).take n).map StrChars.lo8).map Value.int) := by simp [List.map_drop, List.map_take]
theorem own_mem {cs : List Int32} {a n : Nat} (h : ∀ c ∈ cs, B8 c) : ∀ c ∈ (cs.drop a).take n, B8 c := fun c q => h c (List.mem_of_mem_drop (List.mem_of_mem_take q))
theorem own_msk {c : Int32} (h : B8 c) : StrChars.lo8 c &&& (255 : Int32) = c := StrChars.lo8_mask h.1 h.2
theorem own_V8 {Z : State} {h : Heap} {y : Addr} {k : ClassId} {cs : List Int32} {a b : Nat} (V : Arv Z h y k .byte (Int32.ofNat (b - a)) ((((cs.map StrChars.lo8).map Value.int).drop a).take (b - a)) (.int (0 : Int32))) (hb : b ≤ cs.length) : Arv Z h y k .byte (Int32.ofNat ((cs.drop a).take (b - a)).length) ((((cs.drop a).take (b - a)).map StrChars.lo8).map Value.int) (.int 0) := by
  rw [own_map] at V
  rw [show ((cs.drop a).take (b - a)).length = b - a from by simp; omega]
  exact V
theorem ref_cases {v : Value} (h : v.isRef = true) : (∃ a, v = .ref a) ∨ v = .null := by cases v <;> first | (exact Or.inl ⟨_, rfl⟩) | (exact Or.inr rfl) | cases h
/-- what trim leaves -/
def own_sp (k : Int32) : Bool := if (32 : Int32) < k then false else true
theorem own_spF {k : Int32} (h : (32 : Int32) < k) : own_sp k = false := if_pos h
theorem own_spT {k : Int32} (h : ¬ (32 : Int32) < k) : own_sp k = true := if_neg h
def own_trim (cs : List Int32) : List Int32 := ((cs.dropWhile own_sp).reverse.dropWhile own_sp).reverse
/-- one of the letters a, A, b, B -/
def own_isl (k : Int32) : Prop := k = (97 : Int32) ∨ k = (65 : Int32) ∨ k = (98 : Int32) ∨ k = (66 : Int32)
def own_ci (j k : Int32) : Int32 := if j &&& (223 : Int32) = k &&& (223 : Int32) then 1 else 0
theorem own_isl8 {k : Int32} (h : own_isl k) : B8 k ∧ StrChars.lo8 k = k ∧ (32 : Int32) < k := by rcases h with rfl | rfl | rfl | rfl <;> decide
theorem own_nci {j k : Int32} : nar .boolean (own_ci j k) = own_ci j k := by unfold own_ci; split <;> decide
theorem own_ci1 {j k : Int32} (h : ¬ own_ci j k = 0) : own_ci j k = 1 := by
  unfold own_ci at h ⊢; split <;> simp_all
def own_let (i : Int32) : Int32 := if i = (0 : Int32) then 97 else if i = (1 : Int32) then 65 else if i = (2 : Int32) then 98 else 66
theorem own_letl (i : Int32) : own_isl (own_let i) := by unfold own_let own_isl; split <;> (try split) <;> (try split) <;> simp
theorem b8_l2c (x : Int64) : B8 (((x &&& (255 : Int64)).toInt32).toUInt32.toUInt16.toUInt32.toInt32) := by
  rw [show (x &&& (255 : Int64)).toInt32 = x.toInt32 &&& (255 : Int32) from by rw [Int64.toInt32_and]; rfl]; exact b8_i2c _
theorem b8_nar {k : Int32} (h : B8 k) : B8 (nar .char k) := by rw [nar_c h]; exact h
theorem own_of2 (i : Nat) : Int32.ofNat i + (2 : Int32) = Int32.ofNat (i + 2) := (Int32.ofNat_add i 2).symm
theorem own_of3 (i : Nat) : Int32.ofNat i + (3 : Int32) = Int32.ofNat (i + 3) := (Int32.ofNat_add i 3).symm
theorem wchn : ∀ d ∈ StrChars.Road.wordsChN, d ∈ tables_1 := by decide +kernel
def own_lo (d0 d1 d2 d3 : Int32) : Nat := if (32 : Int32) < d0 then 0 else if (32 : Int32) < d1 then 1 else if (32 : Int32) < d2 then 2 else if (32 : Int32) < d3 then 3 else 4
def own_hi (d0 d1 d2 d3 : Int32) : Nat := if (32 : Int32) < d3 then 4 else if (32 : Int32) < d2 then 3 else if (32 : Int32) < d1 then 2 else if (32 : Int32) < d0 then 1 else 0
theorem own_of4 (i : Nat) : Int32.ofNat i + (4 : Int32) = Int32.ofNat (i + 4) := (Int32.ofNat_add i 4).symm
theorem own_trlh (d0 d1 d2 d3 : Int32) : (own_trim [d0, d1, d2, d3]).length = max (own_lo d0 d1 d2 d3) (own_hi d0 d1 d2 d3) - own_lo d0 d1 d2 d3 ∧ own_lo d0 d1 d2 d3 ≤ 4 ∧ own_hi d0 d1 d2 d3 ≤ 4 ∧ ∀ i, i < max (own_lo d0 d1 d2 d3) (own_hi d0 d1 d2 d3) - own_lo d0 d1 d2 d3 → (own_trim [d0, d1, d2, d3]).getD i 0 = [d0, d1, d2, d3].getD (own_lo d0 d1 d2 d3 + i) 0 := by
  by_cases z0 : (32 : Int32) < d0 <;> by_cases z1 : (32 : Int32) < d1 <;> by_cases z2 : (32 : Int32) < d2 <;> by_cases z3 : (32 : Int32) < d3 <;> refine ⟨by simp [own_trim, own_lo, own_hi, own_sp, List.dropWhile_cons, z0, z1, z2, z3], by simp [own_lo, z0, z1, z2, z3], by simp [own_hi, z0, z1, z2, z3], ?_⟩ <;> intro i hi <;> (rcases i with _ | _ | _ | _ | i) <;> first | (simp [own_trim, own_lo, own_hi, own_sp, List.dropWhile_cons, z0, z1, z2, z3]; done) | (exfalso; simp [own_lo, own_hi, z0, z1, z2, z3] at hi; done) | (exfalso; simp [own_lo, own_hi, z0, z1, z2, z3] at hi; omega)
theorem own_get4 {fs : List Value} {a : Nat} {d0 d1 d2 d3 : Int32} {z : Value} (q0 : fs.getD (a + 0) z = .int d0) (q1 : fs.getD (a + 1) z = .int d1) (q2 : fs.getD (a + 2) z = .int d2) (q3 : fs.getD (a + 3) z = .int d3) {i : Nat} (hi : i < 4) : fs.getD (a + i) z = .int ([d0, d1, d2, d3].getD i 0) := by
  rcases i with _ | _ | _ | _ | i
  · exact q0
  · exact q1
  · exact q2
  · exact q3
  · omega
theorem own_al0 {P : Nat → Prop} {f : Nat} : ∀ i, f ≤ i → i < f → P i := fun i h1 h2 => absurd h1 (by omega)
theorem own_alS {P : Nat → Prop} {f j : Nat} (h : P f) (r : ∀ i, f + 1 ≤ i → i < j → P i) : ∀ i, f ≤ i → i < j → P i := fun i h1 h2 => if e : i = f then e ▸ h else r i (by omega) h2
theorem own_bl0 {P : Nat → Prop} : ∀ i, i < 0 → P i := fun i h => absurd h (by omega)
theorem own_blS {P : Nat → Prop} {n : Nat} (r : ∀ i, i < n → P i) (h : P n) : ∀ i, i < n + 1 → P i := fun i g => if e : i = n then e ▸ h else r i (by omega)
theorem own_isln {k : Int32} (h : own_isl k) : ¬ k = (59 : Int32) ∧ ¬ k = (61 : Int32) ∧ (32 : Int32) < k := by rcases h with rfl | rfl | rfl | rfl <;> decide
theorem own_t3 {lc : Int32} (h : (32 : Int32) < lc) : own_trim [(32 : Int32), lc, (9 : Int32)] = [lc] := by simp [own_trim, List.dropWhile_cons, own_spF h, own_spT (show ¬ (32 : Int32) < 32 by decide), own_spT (show ¬ (32 : Int32) < 9 by decide)]
theorem own_t2 {lc : Int32} (h : (32 : Int32) < lc) : own_trim [lc, (32 : Int32)] = [lc] := by simp [own_trim, List.dropWhile_cons, own_spF h, own_spT (show ¬ (32 : Int32) < 32 by decide)]
theorem own_t4 {lc : Int32} (h : (32 : Int32) < lc) : own_trim [(59 : Int32), (32 : Int32), lc, (9 : Int32)] = [(59 : Int32), (32 : Int32), lc] := by simp [own_trim, List.dropWhile_cons, own_spF h, own_spT (show ¬ (32 : Int32) < 9 by decide), own_spF (show (32 : Int32) < 59 by decide)]
/-- null, or a String of these chars -/
def own_OR (Z : State) (h : Heap) (w : Value) : Option (List Int32) → Prop
  | none => w = .null
  | some cs => ∃ y, w = .ref y ∧ LS Z h y cs
def own_QP (Z : State) (h0 : Heap) (n0 : Nat) (o : Option (List Int32)) : Option Value → Heap → List Loc → Prop := fun v h L => ∃ w, v = some w ∧ Fr n0 L ∧ Ext h0 h ∧ own_OR Z h w o
def own_H1 (c6 c7 c8 c9 : Int32) (v1 : List Int32) : Prop := (¬ c6 = (34 : Int32) ∧ ¬ c6 = (59 : Int32) ∧ ¬ c7 = (59 : Int32) ∧ ¬ c8 = (59 : Int32) ∧ ¬ c9 = (59 : Int32) ∧ v1 = own_trim [c6, c7, c8, c9]) ∨ (c6 = (34 : Int32) ∧ c9 = (34 : Int32) ∧ ¬ c7 = (34 : Int32) ∧ ¬ c8 = (34 : Int32) ∧ v1 = [c7, c8])
def own_H2 (c14 c15 c16 c17 : Int32) (v2 : List Int32) : Prop := (¬ c14 = (34 : Int32) ∧ ¬ c14 = (59 : Int32) ∧ ¬ c15 = (59 : Int32) ∧ ¬ c16 = (59 : Int32) ∧ ¬ c17 = (59 : Int32) ∧ v2 = own_trim [c14, c15, c16, c17]) ∨ (c14 = (34 : Int32) ∧ c17 = (34 : Int32) ∧ ¬ c15 = (34 : Int32) ∧ ¬ c16 = (34 : Int32) ∧ v2 = [c15, c16]) ∨ (c14 = (34 : Int32) ∧ ¬ c15 = (34 : Int32) ∧ ¬ c16 = (34 : Int32) ∧ ¬ c17 = (34 : Int32) ∧ v2 = [c15, c16, c17])
theorem own_and3 (x : Int32) : x &&& (3 : Int32) = 0 ∨ x &&& (3 : Int32) = 1 ∨ x &&& (3 : Int32) = 2 ∨ x &&& (3 : Int32) = 3 := by
  obtain ⟨h1, h2⟩ := and_le x (k := 3) (K := 3) rfl (by decide)
  generalize x &&& (3 : Int32) = y at h1 h2
  have q : y.toInt = 0 ∨ y.toInt = 1 ∨ y.toInt = 2 ∨ y.toInt = 3 := by omega
  rcases q with q | q | q | q
  · exact Or.inl (Int32.toInt_inj.mp q)
  · exact Or.inr (Or.inl (Int32.toInt_inj.mp q))
  · exact Or.inr (Or.inr (Or.inl (Int32.toInt_inj.mp q)))
  · exact Or.inr (Or.inr (Or.inr (Int32.toInt_inj.mp q)))
theorem own_lci {i j : Int32} (hi : i = 0 ∨ i = 1 ∨ i = 2 ∨ i = 3) (hj : j = 0 ∨ j = 1 ∨ j = 2 ∨ j = 3) : i >>> ((1 : Int32) &&& 31) = j >>> ((1 : Int32) &&& 31) ↔ ¬ own_ci (own_let i) (own_let j) = 0 := by
  rcases hi with rfl | rfl | rfl | rfl <;> rcases hj with rfl | rfl | rfl | rfl <;> decide
theorem own_sq {r j : Int32} (n : ¬ j = (59 : Int32)) (h : True → r = (92 : Int32) ∨ r = j) : ¬ r = (59 : Int32) := fun e => (h trivial).elim (fun q => absurd (q.symm.trans e) (by decide)) (fun q => n (q.symm.trans e))
theorem own_l0 {lc : Int32} (k0 : ¬ (32 : Int32) < (32 : Int32)) (k1 : (32 : Int32) < lc) (k2 : ¬ (32 : Int32) < (9 : Int32)) : own_trim [(32 : Int32), lc, (9 : Int32)] = [lc] := by simp [own_trim, List.dropWhile_cons, own_spT k0, own_spF k1, own_spT k2]
theorem own_l1 {lc : Int32} (k0 : (32 : Int32) < lc) (k1 : ¬ (32 : Int32) < (32 : Int32)) : own_trim [lc, (32 : Int32)] = [lc] := by simp [own_trim, List.dropWhile_cons, own_spF k0, own_spT k1]
theorem own_l2 {lc : Int32} (k0 : (32 : Int32) < (59 : Int32)) (k1 : ¬ (32 : Int32) < (32 : Int32)) (k2 : (32 : Int32) < lc) (k3 : ¬ (32 : Int32) < (9 : Int32)) : own_trim [(59 : Int32), (32 : Int32), lc, (9 : Int32)] = [(59 : Int32), (32 : Int32), lc] := by simp [own_trim, List.dropWhile_cons, own_spF k0, own_spT k1, own_spF k2, own_spT k3]
theorem own_l3 {c0 c1 c2 c3 : Int32} (k0 : (32 : Int32) < c0) (k1 : (32 : Int32) < c3) : own_trim [c0, c1, c2, c3] = [c0, c1, c2, c3] := by simp [own_trim, List.dropWhile_cons, own_spF k0, own_spF k1]
theorem own_l4 {c0 c1 c2 c3 : Int32} (k0 : (32 : Int32) < c0) (k1 : (32 : Int32) < c2) (k2 : ¬ (32 : Int32) < c3) : own_trim [c0, c1, c2, c3] = [c0, c1, c2] := by simp [own_trim, List.dropWhile_cons, own_spF k0, own_spF k1, own_spT k2]
theorem own_l5 {c0 c1 c2 c3 : Int32} (k0 : (32 : Int32) < c0) (k1 : (32 : Int32) < c1) (k2 : ¬ (32 : Int32) < c2) (k3 : ¬ (32 : Int32) < c3) : own_trim [c0, c1, c2, c3] = [c0, c1] := by simp [own_trim, List.dropWhile_cons, own_spF k0, own_spF k1, own_spT k2, own_spT k3]
theorem own_l6 {c0 c1 c2 c3 : Int32} (k0 : (32 : Int32) < c0) (k1 : ¬ (32 : Int32) < c1) (k2 : ¬ (32 : Int32) < c2) (k3 : ¬ (32 : Int32) < c3) : own_trim [c0, c1, c2, c3] = [c0] := by simp [own_trim, List.dropWhile_cons, own_spF k0, own_spT k1, own_spT k2, own_spT k3]
theorem own_l7 {c0 c1 c2 c3 : Int32} (k0 : ¬ (32 : Int32) < c0) (k1 : (32 : Int32) < c1) (k2 : (32 : Int32) < c3) : own_trim [c0, c1, c2, c3] = [c1, c2, c3] := by simp [own_trim, List.dropWhile_cons, own_spT k0, own_spF k1, own_spF k2]
theorem own_l8 {c0 c1 c2 c3 : Int32} (k0 : ¬ (32 : Int32) < c0) (k1 : (32 : Int32) < c1) (k2 : (32 : Int32) < c2) (k3 : ¬ (32 : Int32) < c3) : own_trim [c0, c1, c2, c3] = [c1, c2] := by simp [own_trim, List.dropWhile_cons, own_spT k0, own_spF k1, own_spF k2, own_spT k3]
theorem own_l9 {c0 c1 c2 c3 : Int32} (k0 : ¬ (32 : Int32) < c0) (k1 : (32 : Int32) < c1) (k2 : ¬ (32 : Int32) < c2) (k3 : ¬ (32 : Int32) < c3) : own_trim [c0, c1, c2, c3] = [c1] := by simp [own_trim, List.dropWhile_cons, own_spT k0, own_spF k1, own_spT k2, own_spT k3]
theorem own_l10 {c0 c1 c2 c3 : Int32} (k0 : ¬ (32 : Int32) < c0) (k1 : ¬ (32 : Int32) < c1) (k2 : (32 : Int32) < c2) (k3 : (32 : Int32) < c3) : own_trim [c0, c1, c2, c3] = [c2, c3] := by simp [own_trim, List.dropWhile_cons, own_spT k0, own_spT k1, own_spF k2, own_spF k3]
theorem own_l11 {c0 c1 c2 c3 : Int32} (k0 : ¬ (32 : Int32) < c0) (k1 : ¬ (32 : Int32) < c1) (k2 : (32 : Int32) < c2) (k3 : ¬ (32 : Int32) < c3) : own_trim [c0, c1, c2, c3] = [c2] := by simp [own_trim, List.dropWhile_cons, own_spT k0, own_spT k1, own_spF k2, own_spT k3]
theorem own_l12 {c0 c1 c2 c3 : Int32} (k0 : ¬ (32 : Int32) < c0) (k1 : ¬ (32 : Int32) < c1) (k2 : ¬ (32 : Int32) < c2) (k3 : (32 : Int32) < c3) : own_trim [c0, c1, c2, c3] = [c3] := by simp [own_trim, List.dropWhile_cons, own_spT k0, own_spT k1, own_spT k2, own_spF k3]
theorem own_l13 {c0 c1 c2 c3 : Int32} (k0 : ¬ (32 : Int32) < c0) (k1 : ¬ (32 : Int32) < c1) (k2 : ¬ (32 : Int32) < c2) (k3 : ¬ (32 : Int32) < c3) : own_trim [c0, c1, c2, c3] = [] := by simp [own_trim, List.dropWhile_cons, own_spT k0, own_spT k1, own_spT k2, own_spT k3]
abbrev tSA (Z : State) : Prop := Sta Z Z.heap "java/lang/StringUTF16" "$assertionsDisabled" "Z" (.int (1 : Int32))
abbrev tSH (Z : State) : Prop := Sta Z Z.heap "java/lang/StringUTF16" "HI_BYTE_SHIFT" "I" (.int (0 : Int32))
abbrev tSL (Z : State) : Prop := Sta Z Z.heap "java/lang/StringUTF16" "LO_BYTE_SHIFT" "I" (.int (8 : Int32))
abbrev tCS (Z : State) (zc : Int32) : Prop := Sta Z Z.heap "java/lang/String" "COMPACT_STRINGS" "Z" (.int zc)
abbrev tSF (Z : State) (fm : Value) : Prop := Sta Z Z.heap "jdk/internal/util/Preconditions" "SIOOBE_FORMATTER" "Ljava/util/function/BiFunction;" fm
abbrev tHW (Z : State) (a0 : Array Value) : Prop := ∀ d ∈ tables_1, d.before a0 Z = true
set_option maxRecDepth 65536
set_option maxHeartbeats 40000000
theorem cILs (l : Launch) (Z : State) (a0 : Array Value) (hw : tHW Z a0) (ws : List Jvm.Cond) (x : Addr) (zc : Int32) (h0 : Heap) (n0 : Nat) (Z0 : n0 ≤ h0.size) (OLD : Old Z n0 h0) (CS : tCS Z zc) (hzc : ¬ zc = 0) (F_c : Fld Z h0 x "java/lang/String" "coder" "B" (.int (0 : Int32))) :
    Con l (⟨"java/lang/String", "isLatin1", "()Z"⟩ : MethodName) jdk_42_method_154_code 1 (some .boolean) ws ({ frames := 0, cells := 0, slots := 0, locals := 0 } : Room) Z #[(.ref x)] h0 (fun v h L => v = some (.int (1 : Int32)) ∧ L = [] ∧ h = h0) 0 0 := by
  refine enter (plainFor_of_name pn_0) ?_
  intro p e s m below meth c s₁ hnm hret hlk D0
  rw [ef_cILs m x]
  refine g_getS D0 3 (hw _ w_8) Via.refl (CS.ext OLD.2) d_jdk_42m154_0 rfl ?_
  intro T101 D101
  refine g_ifN D101 6 d_jdk_42m154_3 (feq hzc).1 rfl ?_
  refine g_aloadN D101 7 d_jdk_42m154_6 rfl rfl rfl ?_
  refine g_getF D101 10 (hw _ w_28) Via.refl F_c d_jdk_42m154_7 rfl ?_
  intro T102 D102
  refine g_ifN D102 13 d_jdk_42m154_10 (by decide) rfl ?_
  refine g_iconst D102 14 (1 : Int32) d_jdk_42m154_13 rfl rfl ?_
  refine g_goto D102 18 d_jdk_42m154_14 (by decide) (by decide) ?_
  exact r_N D102 hret (by simp) hlk d_jdk_42m154_18 ⟨own_r1, rfl, rfl⟩ (by decide) (by decide)
theorem cCEi (l : Launch) (Z : State) (a0 : Array Value) (hw : tHW Z a0) (ws : List Jvm.Cond) (k : Int32) (h0 : Heap) (n0 : Nat) (Z0 : n0 ≤ h0.size) (hk : B8 k) :
    Con l (⟨"java/lang/StringLatin1", "canEncode", "(I)Z"⟩ : MethodName) jdk_43_method_4_code 1 (some .boolean) ws ({ frames := 0, cells := 0, slots := 0, locals := 0 } : Room) Z #[(.int k)] h0 (fun v h L => v = some (.int (1 : Int32)) ∧ L = [] ∧ h = h0) 0 0 := by
  refine enter (plainFor_of_name pn_1) ?_
  intro p e s m below meth c s₁ hnm hret hlk D0
  rw [ef_cCEi m k]
  refine g_iloadN D0 1 d_jdk_43m4_0 rfl rfl ?_
  refine g_ifN D0 4 d_jdk_43m4_1 (flt hk.1).1 rfl ?_
  refine g_iloadN D0 5 d_jdk_43m4_4 rfl rfl ?_
  refine g_sipush D0 8 (255 : Int32) d_jdk_43m4_5 rfl rfl ?_
  refine g_icmpN D0 11 d_jdk_43m4_8 (flt hk.2).2.2.1 rfl ?_
  refine g_iconst D0 12 (1 : Int32) d_jdk_43m4_11 rfl rfl ?_
  refine g_goto D0 16 d_jdk_43m4_12 (by decide) (by decide) ?_
  exact r_N D0 hret (by simp) hlk d_jdk_43m4_16 ⟨own_r1, rfl, rfl⟩ (by decide) (by decide)
theorem cMx0 (l : Launch) (Z : State) (a0 : Array Value) (hw : tHW Z a0) (ws : List Jvm.Cond) (n : Int32) (h0 : Heap) (n0 : Nat) (Z0 : n0 ≤ h0.size) (hn : ¬ n < (0 : Int32)) :
    Con l (⟨"java/lang/Math", "max", "(II)I"⟩ : MethodName) jdk_29_method_65_code 2 (some .int) ws ({ frames := 0, cells := 0, slots := 0, locals := 0 } : Room) Z #[(.int n), (.int (0 : Int32))] h0 (fun v h L => v = some (.int n) ∧ L = [] ∧ h = h0) 0 0 := by
  refine enter (Jvm.Free.JP.mathPlain rfl (by decide +kernel)) ?_
  intro p e s m below meth c s₁ hnm hret hlk D0
  rw [ef_cMx0 m n]
  refine g_iloadN D0 1 d_jdk_29m65_0 rfl rfl ?_
  refine g_iloadN D0 2 d_jdk_29m65_1 rfl rfl ?_
  refine g_icmpN D0 5 d_jdk_29m65_2 (flt hn).1 rfl ?_
  refine g_iloadN D0 6 d_jdk_29m65_5 rfl rfl ?_
  refine g_goto D0 10 d_jdk_29m65_6 (by decide) (by decide) ?_
  exact r_I D0 hret hlk d_jdk_29m65_10 ⟨rfl, rfl, rfl⟩ (by decide) (by decide)
theorem cMnS (l : Launch) (Z : State) (a0 : Array Value) (hw : tHW Z a0) (ws : List Jvm.Cond) (n : Int32) (h0 : Heap) (n0 : Nat) (Z0 : n0 ≤ h0.size)  :
    Con l (⟨"java/lang/Math", "min", "(II)I"⟩ : MethodName) jdk_29_method_69_code 2 (some .int) ws ({ frames := 0, cells := 0, slots := 0, locals := 0 } : Room) Z #[(.int n), (.int n)] h0 (fun v h L => v = some (.int n) ∧ L = [] ∧ h = h0) 0 0 := by
  refine enter (Jvm.Free.JP.mathPlain rfl (by decide +kernel)) ?_
  intro p e s m below meth c s₁ hnm hret hlk D0
  rw [ef_cMnS m n n]
  refine g_iloadN D0 1 d_jdk_29m69_0 rfl rfl ?_
  refine g_iloadN D0 2 d_jdk_29m69_1 rfl rfl ?_
  refine g_icmpN D0 5 d_jdk_29m69_2 (flt (fun q => Int32.lt_irrefl q)).2.2.1 rfl ?_
  refine g_iloadN D0 6 d_jdk_29m69_5 rfl rfl ?_
  refine g_goto D0 10 d_jdk_29m69_6 (by decide) (by decide) ?_
  exact r_I D0 hret hlk d_jdk_29m69_10 ⟨rfl, rfl, rfl⟩ (by decide) (by decide)
theorem cIXC (l : Launch) (Z : State) (a0 : Array Value) (hw : tHW Z a0) (ws : List Jvm.Cond) (t : Addr) (kb : ClassId) (k : Int32) (f : Nat) (cs : List Int32) (h0 : Heap) (n0 : Nat) (Z0 : n0 ≤ h0.size) (V_t : Arv Z h0 t kb .byte (Int32.ofNat cs.length) ((cs.map StrChars.lo8).map Value.int) (.int (0 : Int32))) (hk : B8 k) (hb : ∀ c ∈ cs, B8 c) (hl : cs.length ≤ 4000) (hff : f ≤ cs.length) :
    Con l (⟨"java/lang/StringLatin1", "indexOfChar", "([BIII)I"⟩ : MethodName) jdk_43_method_23_code 6 (some .int) ws ({ frames := 0, cells := 0, slots := 0, locals := 0 } : Room) Z #[(.ref t), (.int k), (.int (Int32.ofNat f)), (.int (Int32.ofNat cs.length))] h0 (fun v h L => (∃ r, v = some (.int r) ∧ IXR cs k f r) ∧ L = [] ∧ h = h0) 0 0 := by
  refine enter (plainFor_of_name pn_1) ?_
  intro p e s m below meth c s₁ hnm hret hlk D0
  rw [ef_cIXC m t k (Int32.ofNat f) (Int32.ofNat cs.length)]
  refine g_iloadN D0 1 d_jdk_43m23_0 rfl rfl ?_
  refine g_i2b D0 2 d_jdk_43m23_1 rfl ?_
  refine g_istore D0 4 #[.val (.ref t), .val (.int k), .val (.int (Int32.ofNat f)), .val (.int (Int32.ofNat cs.length)), .val (.int (k.toInt8.toInt32)), .unset] d_jdk_43m23_2 rfl rfl ?_
  refine g_iloadN D0 5 d_jdk_43m23_4 rfl rfl ?_
  refine g_istore D0 7 #[.val (.ref t), .val (.int k), .val (.int (Int32.ofNat f)), .val (.int (Int32.ofNat cs.length)), .val (.int (k.toInt8.toInt32)), .val (.int (Int32.ofNat f))] d_jdk_43m23_5 rfl rfl ?_
  suffices LP : ∀ mm i : Nat, i + mm = cs.length → f ≤ i → (∀ j, f ≤ j → j < i → cs.getD j 0 ≠ k) → Go p e below (NG s (fun v h L => (∃ r, v = some (.int r) ∧ IXR cs k f r) ∧ L = [] ∧ h = h0) 0 0) (s₁.setTop (mkF m 7 #[.val (.ref t), .val (.int k), .val (.int (Int32.ofNat f)), .val (.int (Int32.ofNat cs.length)), .val (.int (k.toInt8.toInt32)), .val (.int (Int32.ofNat i))] [])) by
    exact LP (cs.length - f) f (by omega) (Nat.le_refl _) (fun j h1 h2 => absurd h1 (by omega))
  intro mm; induction mm with
  | zero =>
    intro i hi hf hn
    show Go p e below _ (s₁.setTop (mkF m 7 #[.val (.ref t), .val (.int k), .val (.int (Int32.ofNat f)), .val (.int (Int32.ofNat cs.length)), .val (.int (k.toInt8.toInt32)), .val (.int (Int32.ofNat i))] []))
    refine g_iload D0 9 d_jdk_43m23_7 rfl rfl ?_
    refine g_iloadN D0 10 d_jdk_43m23_9 rfl rfl ?_
    refine g_icmpY D0 31 d_jdk_43m23_10 (flt (fun q => absurd ((own_lt (by omega) (by omega)).mp q) (by omega))).2.1 (by decide) (by decide) ?_
    refine g_iconst D0 32 (-1 : Int32) d_jdk_43m23_31 rfl rfl ?_
    exact r_I D0 hret hlk d_jdk_43m23_32 ⟨⟨_, rfl, Or.inr ⟨rfl, fun j h1 h2 => hn j h1 (by omega)⟩⟩, rfl, rfl⟩ (by decide) (by decide)
  | succ mm ih =>
    intro i hi hf hn
    have hlt : i < cs.length := by omega
    show Go p e below _ (s₁.setTop (mkF m 7 #[.val (.ref t), .val (.int k), .val (.int (Int32.ofNat f)), .val (.int (Int32.ofNat cs.length)), .val (.int (k.toInt8.toInt32)), .val (.int (Int32.ofNat i))] []))
    refine g_iload D0 9 d_jdk_43m23_7 rfl rfl ?_
    refine g_iloadN D0 10 d_jdk_43m23_9 rfl rfl ?_
    refine g_icmpN D0 13 d_jdk_43m23_10 (tlt ((own_lt (by omega) (by omega)).mpr hlt)).2.1 rfl ?_
    refine g_aloadN D0 14 d_jdk_43m23_13 rfl rfl rfl ?_
    refine g_iload D0 16 d_jdk_43m23_14 rfl rfl ?_
    refine g_baload D0 17 V_t (v := (.int (StrChars.lo8 (cs.getD i 0)))) ⟨own_nneg (by omega), (own_lt (by omega) (by omega)).mpr hlt⟩ (own_at hlt hl) d_jdk_43m23_16 rfl ?_
    refine g_iload D0 19 d_jdk_43m23_17 rfl rfl ?_
    by_cases z0 : (StrChars.lo8 (cs.getD i 0)) = (k.toInt8.toInt32)
    · refine g_icmpN D0 22 d_jdk_43m23_19 (teq z0).2 rfl ?_
      refine g_iload D0 24 d_jdk_43m23_22 rfl rfl ?_
      exact r_I D0 hret hlk d_jdk_43m23_24 ⟨⟨_, rfl, Or.inl ⟨i, hf, hlt, rfl, StrChars.lo8_inj (own_b8at hb hlt).1 (own_b8at hb hlt).2 hk.1 hk.2 z0, hn⟩⟩, rfl, rfl⟩ (by decide) (by decide)
    refine g_icmpY D0 25 d_jdk_43m23_19 (feq z0).2 (by decide) (by decide) ?_
    refine g_iinc D0 28 (1 : Int32) #[.val (.ref t), .val (.int k), .val (.int (Int32.ofNat f)), .val (.int (Int32.ofNat cs.length)), .val (.int (k.toInt8.toInt32)), .val (.int ((Int32.ofNat i) + (1 : Int32)))] d_jdk_43m23_25 rfl rfl rfl rfl ?_
    refine g_goto D0 7 d_jdk_43m23_28 (by decide) (by decide) ?_
    rw [own_ofadd1]
    exact ih (i + 1) (by omega) (by omega) (fun j h1 h2 => if q : j = i then q ▸ fun e => z0 (by rw [e]; rfl) else hn j h1 (by omega))
theorem cIXL (l : Launch) (Z : State) (a0 : Array Value) (hw : tHW Z a0) (ws : List Jvm.Cond) (t : Addr) (kb : ClassId) (k : Int32) (f : Nat) (cs : List Int32) (h0 : Heap) (n0 : Nat) (Z0 : n0 ≤ h0.size) (V_t : Arv Z h0 t kb .byte (Int32.ofNat cs.length) ((cs.map StrChars.lo8).map Value.int) (.int (0 : Int32))) (hk : B8 k) (hb : ∀ c ∈ cs, B8 c) (hl : cs.length ≤ 4000) (hff : f ≤ cs.length) :
    Con l (⟨"java/lang/StringLatin1", "indexOf", "([BIII)I"⟩ : MethodName) jdk_43_method_22_code 4 (some .int) ws ({ frames := 1, cells := 0, slots := 0, locals := 20 } : Room) Z #[(.ref t), (.int k), (.int (Int32.ofNat f)), (.int (Int32.ofNat cs.length))] h0 (fun v h L => (∃ r, v = some (.int r) ∧ IXR cs k f r) ∧ L = [] ∧ h = h0) 0 0 := by
  refine enter (plainFor_of_name pn_1) ?_
  intro p e s m below meth c s₁ hnm hret hlk D0
  rw [ef_cIXL m t k (Int32.ofNat f) (Int32.ofNat cs.length)]
  refine g_iloadN D0 1 d_jdk_43m22_0 rfl rfl ?_
  refine g_callSp D0 4 (hw _ w_90) (hw _ w_91) (hw _ w_11) (hw _ w_92) (by decide) ((cCEi l Z a0 hw [] k h0 n0 Z0 hk).back D0 0 (hw _ w_92) (hw _ w_11) (by decide) (by decide)) rfl [(.int k)] rfl (lenOf pd_0 rfl) rfl (Nat.le_of_eq rfl) (by decide) (by decide) d_jdk_43m22_1 rfl ?_
  intro v103 T103 q103 D103
  subst q103
  show Go p e below _ (T103.setTop (mkF m 4 #[.val (.ref t), .val (.int k), .val (.int (Int32.ofNat f)), .val (.int (Int32.ofNat cs.length))] [(.int (1 : Int32))]))
  refine g_ifY D103 9 d_jdk_43m22_4 (by decide) (by decide) (by decide) ?_
  refine g_iloadN D103 10 d_jdk_43m22_9 rfl rfl ?_
  refine g_iconst D103 11 (0 : Int32) d_jdk_43m22_10 rfl rfl ?_
  refine g_callSp D103 14 (hw _ w_93) (hw _ w_94) (hw _ w_95) (hw _ w_96) (by decide) ((cMx0 l Z a0 hw [] _ h0 n0 Z0 (own_nneg (by omega))).back D103 0 (hw _ w_96) (hw _ w_95) (by decide) (by decide)) rfl [(.int (Int32.ofNat f)), (.int (0 : Int32))] rfl (lenOf pd_1 rfl) rfl (Nat.le_of_eq rfl) (by decide) (by decide) d_jdk_43m22_11 rfl ?_
  intro v104 T104 q104 D104
  subst q104
  show Go p e below _ (T104.setTop (mkF m 14 #[.val (.ref t), .val (.int k), .val (.int (Int32.ofNat f)), .val (.int (Int32.ofNat cs.length))] [(.int (Int32.ofNat f))]))
  refine g_istoreN D104 15 #[.val (.ref t), .val (.int k), .val (.int (Int32.ofNat f)), .val (.int (Int32.ofNat cs.length))] d_jdk_43m22_14 rfl rfl ?_
  refine g_iloadN D104 16 d_jdk_43m22_15 rfl rfl ?_
  refine g_aloadN D104 17 d_jdk_43m22_16 rfl rfl rfl ?_
  refine g_alen D104 18 V_t d_jdk_43m22_17 rfl ?_
  refine g_callSp D104 21 (hw _ w_97) (hw _ w_98) (hw _ w_95) (hw _ w_99) (by decide) ((cMnS l Z a0 hw [] _ h0 n0 Z0).back D104 0 (hw _ w_99) (hw _ w_95) (by decide) (by decide)) rfl [(.int (Int32.ofNat cs.length)), (.int (Int32.ofNat cs.length))] rfl (lenOf pd_1 rfl) rfl (Nat.le_of_eq rfl) (by decide) (by decide) d_jdk_43m22_18 rfl ?_
  intro v105 T105 q105 D105
  subst q105
  show Go p e below _ (T105.setTop (mkF m 21 #[.val (.ref t), .val (.int k), .val (.int (Int32.ofNat f)), .val (.int (Int32.ofNat cs.length))] [(.int (Int32.ofNat cs.length))]))
  refine g_istoreN D105 22 #[.val (.ref t), .val (.int k), .val (.int (Int32.ofNat f)), .val (.int (Int32.ofNat cs.length))] d_jdk_43m22_21 rfl rfl ?_
  refine g_iloadN D105 23 d_jdk_43m22_22 rfl rfl ?_
  refine g_iloadN D105 24 d_jdk_43m22_23 rfl rfl ?_
  by_cases z0 : (Int32.ofNat f) < (Int32.ofNat cs.length)
  · refine g_icmpY D105 29 d_jdk_43m22_24 (tlt z0).1 (by decide) (by decide) ?_
    refine g_aloadN D105 30 d_jdk_43m22_29 rfl rfl rfl ?_
    refine g_iloadN D105 31 d_jdk_43m22_30 rfl rfl ?_
    refine g_iloadN D105 32 d_jdk_43m22_31 rfl rfl ?_
    refine g_iloadN D105 33 d_jdk_43m22_32 rfl rfl ?_
    refine g_callSp D105 36 (hw _ w_100) (hw _ w_101) (hw _ w_11) (hw _ w_102) (by decide) ((cIXC l Z a0 hw [] t kb k f cs h0 n0 Z0 V_t hk hb hl hff).back D105 0 (hw _ w_102) (hw _ w_11) (by decide) (by decide)) rfl [(.ref t), (.int k), (.int (Int32.ofNat f)), (.int (Int32.ofNat cs.length))] rfl (lenOf pd_2 rfl) rfl (Nat.le_of_eq rfl) (by decide) (by decide) d_jdk_43m22_33 rfl ?_
    intro v106 T106 q106 D106
    obtain ⟨r, rfl, c1⟩ := q106
    show Go p e below _ (T106.setTop (mkF m 36 #[.val (.ref t), .val (.int k), .val (.int (Int32.ofNat f)), .val (.int (Int32.ofNat cs.length))] [(.int r)]))
    exact r_I D106 hret hlk d_jdk_43m22_36 ⟨⟨r, rfl, c1⟩, rfl, rfl⟩ (by decide) (by decide)
  refine g_icmpN D105 27 d_jdk_43m22_24 (flt z0).1 rfl ?_
  refine g_iconst D105 28 (-1 : Int32) d_jdk_43m22_27 rfl rfl ?_
  exact r_I D105 hret hlk d_jdk_43m22_28 ⟨⟨_, rfl, Or.inr ⟨rfl, fun j h1 h2 => absurd ((own_lt (by omega) hl).mpr (show f < cs.length by omega)) z0⟩⟩, rfl, rfl⟩ (by decide) (by decide)
theorem cIX2 (l : Launch) (Z : State) (a0 : Array Value) (hw : tHW Z a0) (ws : List Jvm.Cond) (x : Addr) (k zc : Int32) (f : Nat) (cs : List Int32) (h0 : Heap) (n0 : Nat) (Z0 : n0 ≤ h0.size) (OLD : Old Z n0 h0) (CS : tCS Z zc) (hzc : ¬ zc = 0) (X_x : LS Z h0 x cs) (hk : B8 k) (hff : f ≤ cs.length) :
    Con l (⟨"java/lang/String", "indexOf", "(II)I"⟩ : MethodName) jdk_42_method_80_code 3 (some .int) ws ({ frames := 2, cells := 0, slots := 0, locals := 42 } : Room) Z #[(.ref x), (.int k), (.int (Int32.ofNat f))] h0 (fun v h L => (∃ r, v = some (.int r) ∧ IXR cs k f r) ∧ L = [] ∧ h = h0) 0 0 := by
  refine enter (plainFor_of_name pn_0) ?_
  intro p e s m below meth c s₁ hnm hret hlk D0
  rw [ef_cIX2 m x k (Int32.ofNat f)]
  obtain ⟨t, kt, x1, x2, x3, x4, x5, x6⟩ := (id X_x)
  refine g_aloadN D0 1 d_jdk_42m80_0 rfl rfl rfl ?_
  refine g_callVp D0 4 (hw _ w_72) (hw _ w_73) (notFace_of_selects (args := #[]) (mvT D0.wm (hw _ w_75))) (hw _ w_75) (hw _ w_74) (by decide) ((cILs l Z a0 hw [] x zc h0 n0 Z0 OLD CS hzc x2).back D0 0 (hw _ w_76) (hw _ w_6) (by decide) (by decide)) x1 rfl [] rfl (lenOf pd_3 rfl) rfl (Nat.le_of_eq rfl) (by decide) (by decide) d_jdk_42m80_1 rfl ?_
  intro v107 T107 q107 D107
  subst q107
  show Go p e below _ (T107.setTop (mkF m 4 #[.val (.ref x), .val (.int k), .val (.int (Int32.ofNat f))] [(.int (1 : Int32))]))
  refine g_ifN D107 7 d_jdk_42m80_4 (by decide) rfl ?_
  refine g_aloadN D107 8 d_jdk_42m80_7 rfl rfl rfl ?_
  refine g_getF D107 11 (hw _ w_26) Via.refl x3 d_jdk_42m80_8 rfl ?_
  intro T108 D108
  refine g_iloadN D108 12 d_jdk_42m80_11 rfl rfl ?_
  refine g_iloadN D108 13 d_jdk_42m80_12 rfl rfl ?_
  refine g_aloadN D108 14 d_jdk_42m80_13 rfl rfl rfl ?_
  refine g_callVp D108 17 (hw _ w_77) (hw _ w_78) (notFace_of_selects (args := #[]) (mvT D108.wm (hw _ w_80))) (hw _ w_80) (hw _ w_79) (by decide) (TS.lenB 3 D108 hw (LS.ts X_x) (CS.ext OLD.2) hzc (by decide) (by decide)) x1 rfl [] rfl (lenOf pd_4 rfl) rfl (Nat.le_of_eq rfl) (by decide) (by decide) d_jdk_42m80_14 rfl ?_
  intro v109 T109 q109 D109
  subst q109
  show Go p e below _ (T109.setTop (mkF m 17 #[.val (.ref x), .val (.int k), .val (.int (Int32.ofNat f))] [(.int (Int32.ofNat cs.length)), (.int (Int32.ofNat f)), (.int k), (.ref t)]))
  refine g_callSp D109 20 (hw _ w_87) (hw _ w_88) (hw _ w_11) (hw _ w_89) (by decide) ((cIXL l Z a0 hw [] t kt k f cs h0 n0 Z0 x4 hk x5 x6 hff).back D109 0 (hw _ w_89) (hw _ w_11) (by decide) (by decide)) rfl [(.ref t), (.int k), (.int (Int32.ofNat f)), (.int (Int32.ofNat cs.length))] rfl (lenOf pd_2 rfl) rfl (Nat.le_of_eq rfl) (by decide) (by decide) d_jdk_42m80_17 rfl ?_
  intro v110 T110 q110 D110
  obtain ⟨r, rfl, c1⟩ := q110
  show Go p e below _ (T110.setTop (mkF m 20 #[.val (.ref x), .val (.int k), .val (.int (Int32.ofNat f))] [(.int r)]))
  refine g_goto D110 36 d_jdk_42m80_20 (by decide) (by decide) ?_
  exact r_I D110 hret hlk d_jdk_42m80_36 ⟨⟨r, rfl, c1⟩, rfl, rfl⟩ (by decide) (by decide)
theorem cIX1 (l : Launch) (Z : State) (a0 : Array Value) (hw : tHW Z a0) (ws : List Jvm.Cond) (x : Addr) (k zc : Int32) (cs : List Int32) (h0 : Heap) (n0 : Nat) (Z0 : n0 ≤ h0.size) (OLD : Old Z n0 h0) (CS : tCS Z zc) (hzc : ¬ zc = 0) (X_x : LS Z h0 x cs) (hk : B8 k) :
    Con l (⟨"java/lang/String", "indexOf", "(I)I"⟩ : MethodName) jdk_42_method_79_code 2 (some .int) ws ({ frames := 3, cells := 0, slots := 0, locals := 56 } : Room) Z #[(.ref x), (.int k)] h0 (fun v h L => (∃ r, v = some (.int r) ∧ IXR cs k 0 r) ∧ L = [] ∧ h = h0) 0 0 := by
  refine enter (plainFor_of_name pn_0) ?_
  intro p e s m below meth c s₁ hnm hret hlk D0
  rw [ef_cIX1 m x k]
  refine g_aloadN D0 1 d_jdk_42m79_0 rfl rfl rfl ?_
  refine g_iloadN D0 2 d_jdk_42m79_1 rfl rfl ?_
  refine g_iconst D0 3 (0 : Int32) d_jdk_42m79_2 rfl rfl ?_
  refine g_callVp D0 6 (hw _ w_67) (hw _ w_68) (notFace_of_selects (args := #[]) (mvT D0.wm (hw _ w_70))) (hw _ w_70) (hw _ w_69) (by decide) ((cIX2 l Z a0 hw [] x k zc 0 cs h0 n0 Z0 OLD CS hzc X_x hk (Nat.zero_le _)).back D0 0 (hw _ w_71) (hw _ w_6) (by decide) (by decide)) X_x.exa rfl [(.int k), (.int (0 : Int32))] rfl (lenOf pd_1 rfl) rfl (Nat.le_of_eq rfl) (by decide) (by decide) d_jdk_42m79_3 rfl ?_
  intro v111 T111 q111 D111
  obtain ⟨r, rfl, c1⟩ := q111
  show Go p e below _ (T111.setTop (mkF m 6 #[.val (.ref x), .val (.int k)] [(.int r)]))
  exact r_I D111 hret hlk d_jdk_42m79_6 ⟨⟨r, rfl, c1⟩, rfl, rfl⟩ (by decide) (by decide)
theorem cCL (l : Launch) (Z : State) (a0 : Array Value) (hw : tHW Z a0) (ws : List Jvm.Cond) (n m_ : Int32) (h0 : Heap) (n0 : Nat) (Z0 : n0 ≤ h0.size) (hn : ¬ m_ < n) :
    Con l (⟨"java/util/Arrays", "checkLength", "(II)V"⟩ : MethodName) jdk_65_method_131_code 2 none ws ({ frames := 0, cells := 0, slots := 0, locals := 0 } : Room) Z #[(.int n), (.int m_)] h0 (fun v h L => v = none ∧ L = [] ∧ h = h0) 0 0 := by
  refine enter (plainFor_of_name pn_2) ?_
  intro p e s m below meth c s₁ hnm hret hlk D0
  rw [ef_cCL m n m_]
  refine g_iloadN D0 1 d_jdk_65m131_0 rfl rfl ?_
  refine g_iloadN D0 2 d_jdk_65m131_1 rfl rfl ?_
  refine g_icmpY D0 37 d_jdk_65m131_2 (flt hn).2.1 (by decide) (by decide) ?_
  exact r_V D0 hret hlk d_jdk_65m131_37 ⟨rfl, rfl, rfl⟩ (by decide) (by decide)
theorem cMnL (l : Launch) (Z : State) (a0 : Array Value) (hw : tHW Z a0) (ws : List Jvm.Cond) (n m_ : Int32) (h0 : Heap) (n0 : Nat) (Z0 : n0 ≤ h0.size) (hn : ¬ m_ < n → n = m_) :
    Con l (⟨"java/lang/Math", "min", "(II)I"⟩ : MethodName) jdk_29_method_69_code 2 (some .int) ws ({ frames := 0, cells := 0, slots := 0, locals := 0 } : Room) Z #[(.int n), (.int m_)] h0 (fun v h L => v = some (.int m_) ∧ L = [] ∧ h = h0) 0 0 := by
  refine enter (Jvm.Free.JP.mathPlain rfl (by decide +kernel)) ?_
  intro p e s m below meth c s₁ hnm hret hlk D0
  rw [ef_cMnL m n m_]
  refine g_iloadN D0 1 d_jdk_29m69_0 rfl rfl ?_
  refine g_iloadN D0 2 d_jdk_29m69_1 rfl rfl ?_
  by_cases z0 : m_ < n
  · refine g_icmpY D0 9 d_jdk_29m69_2 (tlt z0).2.2.1 (by decide) (by decide) ?_
    refine g_iloadN D0 10 d_jdk_29m69_9 rfl rfl ?_
    exact r_I D0 hret hlk d_jdk_29m69_10 ⟨rfl, rfl, rfl⟩ (by decide) (by decide)
  refine g_icmpN D0 5 d_jdk_29m69_2 (flt z0).2.2.1 rfl ?_
  refine g_iloadN D0 6 d_jdk_29m69_5 rfl rfl ?_
  refine g_goto D0 10 d_jdk_29m69_6 (by decide) (by decide) ?_
  exact r_I D0 hret hlk d_jdk_29m69_10 ⟨congrArg (fun z => some (Value.int z)) (hn z0), rfl, rfl⟩ (by decide) (by decide)
def Q_cCB (Z : State) (t : Addr) (kt : ClassId) (vs : List Value) (a b : Nat) (h0 : Heap) (n0 : Nat) : Option Value → Heap → List Loc → Prop := (fun v h L => ∃ y ky, v = some (.ref y) ∧ h0.size ≤ y ∧ Fr n0 L ∧ Ext h0 h ∧ Arv Z h y ky .byte (Int32.ofNat (b - a)) ((vs.drop a).take (b - a)) (.int (0 : Int32)))
theorem cCB (l : Launch) (Z : State) (a0 : Array Value) (hw : tHW Z a0) (ws : List Jvm.Cond) (t : Addr) (kt : ClassId) (vs : List Value) (a b : Nat) (h0 : Heap) (n0 : Nat) (Z0 : n0 ≤ h0.size) (V_t : Arv Z h0 t kt .byte (Int32.ofNat vs.length) vs (.int (0 : Int32))) (hab : a ≤ b) (hbv : b ≤ vs.length) (h18 : vs.length ≤ 18) :
    Con l (⟨"java/util/Arrays", "copyOfRangeByte", "([BII)[B"⟩ : MethodName) jdk_65_method_133_code 5 (some (.array .byte)) ws ({ frames := 1, cells := 1, slots := 18, locals := 64 } : Room) Z #[(.ref t), (.int (Int32.ofNat a)), (.int (Int32.ofNat b))] h0 (Q_cCB Z t kt vs a b h0 n0) 1 18 := by
  refine enter (plainFor_of_name pn_2) ?_
  intro p e s m below meth c s₁ hnm hret hlk D0
  rw [ef_cCB m t (Int32.ofNat a) (Int32.ofNat b)]
  have e1 := own_clamp (show b - a ≤ 4000 by omega)
  have e2 := own_clamp (show a ≤ 4000 by omega)
  have e3 := own_clamp (show vs.length ≤ 4000 by omega)
  refine g_iloadN D0 1 d_jdk_65m133_0 rfl rfl ?_
  refine g_iloadN D0 2 d_jdk_65m133_1 rfl rfl ?_
  refine g_callSp D0 5 (hw _ w_128) (hw _ w_129) (hw _ w_123) (hw _ w_130) (by decide) ((cCL l Z a0 hw [] (Int32.ofNat a) (Int32.ofNat b) h0 n0 Z0 (fun q => absurd ((own_lt (by omega) (by omega)).mp q) (by omega))).back D0 0 (hw _ w_130) (hw _ w_123) (by decide) (by decide)) rfl [(.int (Int32.ofNat a)), (.int (Int32.ofNat b))] rfl (lenOf pd_5 rfl) rfl (Nat.le_of_eq rfl) (by decide) (by decide) d_jdk_65m133_2 rfl ?_
  intro v112 T112 q112 D112
  subst q112
  show Go p e below _ (T112.setTop (mkF m 5 #[.val (.ref t), .val (.int (Int32.ofNat a)), .val (.int (Int32.ofNat b)), .unset, .unset] []))
  refine g_iloadN D112 6 d_jdk_65m133_5 rfl rfl ?_
  refine g_iloadN D112 7 d_jdk_65m133_6 rfl rfl ?_
  refine g_isub D112 8 d_jdk_65m133_7 rfl ?_
  rw [own_subN (show a ≤ b by omega)]
  refine g_istoreN D112 9 #[.val (.ref t), .val (.int (Int32.ofNat a)), .val (.int (Int32.ofNat b)), .val (.int (Int32.ofNat (b - a))), .unset] d_jdk_65m133_8 rfl rfl ?_
  refine g_iloadN D112 10 d_jdk_65m133_9 rfl rfl ?_
  refine g_newP D112 12 (aty := .byte) (hw _ w_18) d_jdk_65m133_10 (own_nneg (by omega)) (cap := 18) (by rw [e1]; omega) (by decide) (by decide) (by decide) (fun _ _ => trivial) rfl ?_
  intro T113 h113 a113 k113 g113 E113 V113 D113
  have V9 : Arv Z h113 a113 k113 .byte (Int32.ofNat (b - a)) (List.replicate (b - a) (.int (0 : Int32))) (.int (0 : Int32)) := V113.pad (pad_rep [] _ (b - a))
  refine g_astore D113 14 #[.val (.ref t), .val (.int (Int32.ofNat a)), .val (.int (Int32.ofNat b)), .val (.int (Int32.ofNat (b - a))), .val (.ref a113)] d_jdk_65m133_12 rfl rfl rfl ?_
  refine g_aloadN D113 15 d_jdk_65m133_14 rfl rfl rfl ?_
  refine g_iloadN D113 16 d_jdk_65m133_15 rfl rfl ?_
  refine g_aload D113 18 d_jdk_65m133_16 rfl rfl rfl ?_
  refine g_iconst D113 19 (0 : Int32) d_jdk_65m133_18 rfl rfl ?_
  refine g_aloadN D113 20 d_jdk_65m133_19 rfl rfl rfl ?_
  refine g_alen D113 21 (V_t.ext E113) d_jdk_65m133_20 rfl ?_
  refine g_iloadN D113 22 d_jdk_65m133_21 rfl rfl ?_
  refine g_isub D113 23 d_jdk_65m133_22 rfl ?_
  rw [own_subN (show a ≤ vs.length by omega)]
  refine g_iloadN D113 24 d_jdk_65m133_23 rfl rfl ?_
  refine g_callSp D113 27 (hw _ w_131) (hw _ w_98) (hw _ w_95) (hw _ w_99) (by decide) ((cMnL l Z a0 hw [] _ _ h113 n0 (Nat.le_trans Z0 E113.1) (fun q => congrArg Int32.ofNat (Nat.le_antisymm (Nat.le_of_not_lt fun z => q ((own_lt (by omega) (by omega)).mpr z)) (by omega)))).back D113 4 (hw _ w_99) (hw _ w_95) (by decide) (by decide)) rfl [(.int (Int32.ofNat (vs.length - a))), (.int (Int32.ofNat (b - a)))] rfl (lenOf pd_1 rfl) rfl (Nat.le_of_eq rfl) (by decide) (by decide) d_jdk_65m133_24 rfl ?_
  intro v114 T114 q114 D114
  subst q114
  show Go p e below _ (T114.setTop (mkF m 27 #[.val (.ref t), .val (.int (Int32.ofNat a)), .val (.int (Int32.ofNat b)), .val (.int (Int32.ofNat (b - a))), .val (.ref a113)] [(.int (Int32.ofNat (b - a))), (.int (0 : Int32)), (.ref a113), (.int (Int32.ofNat a)), (.ref t)]))
  refine g_cpA D114 30 (hw _ w_132) (hw _ w_135) (hw _ w_133) (hw _ w_134) ((vs.drop a).take (b - a)) (V_t.ext E113) V9 rfl (own_nneg (by omega)) (by decide) (own_nneg (by omega)) (by rw [e1, e2, e3]; omega) (by rw [e1]; exact Nat.le_of_eq (Nat.zero_add _)) (own_usN (by omega) (by omega) (by omega)) (by rw [e1]; simp) (Fr.nil n0) (Nat.le_trans Z0 (Nat.le_of_eq g113.symm)) rfl d_jdk_65m133_27 (by decide) (W := 0) (Nat.le_of_eq rfl) (by decide) (fun _ _ => trivial) rfl ?_
  intro T115 h115 L115 N115 K115 V115 D115
  rw [own_tail (by omega)] at V115
  refine g_aload D115 32 d_jdk_65m133_30 rfl rfl rfl ?_
  exact r_A D115 hret rfl rfl hlk d_jdk_65m133_32 ⟨a113, k113, rfl, (Nat.le_trans (Nat.le_refl _) (Nat.le_of_eq g113.symm)), N115, Keep.toExt (((Keep.refl _ []).ext E113).trans K115 (allS (Or.inr (Nat.le_trans (Nat.le_refl _) (Nat.le_of_eq g113.symm))) all0)), V115⟩ (by decide) (by decide)
def Q_cCR (Z : State) (t : Addr) (kt : ClassId) (vs : List Value) (a b : Nat) (h0 : Heap) (n0 : Nat) : Option Value → Heap → List Loc → Prop := (fun v h L => ∃ y ky, v = some (.ref y) ∧ h0.size ≤ y ∧ Fr n0 L ∧ Ext h0 h ∧ Arv Z h y ky .byte (Int32.ofNat (b - a)) ((vs.drop a).take (b - a)) (.int (0 : Int32)))
theorem cCR (l : Launch) (Z : State) (a0 : Array Value) (hw : tHW Z a0) (ws : List Jvm.Cond) (t : Addr) (kt : ClassId) (vs : List Value) (a b : Nat) (h0 : Heap) (n0 : Nat) (Z0 : n0 ≤ h0.size) (V_t : Arv Z h0 t kt .byte (Int32.ofNat vs.length) vs (.int (0 : Int32))) (hab : a < b) (hbv : b ≤ vs.length) (h18 : vs.length ≤ 18) (hnf : a = 0 → b = vs.length → False) :
    Con l (⟨"java/util/Arrays", "copyOfRange", "([BII)[B"⟩ : MethodName) jdk_65_method_132_code 3 (some (.array .byte)) ws ({ frames := 2, cells := 1, slots := 18, locals := 80 } : Room) Z #[(.ref t), (.int (Int32.ofNat a)), (.int (Int32.ofNat b))] h0 (Q_cCR Z t kt vs a b h0 n0) 1 18 := by
  refine enter (plainFor_of_name pn_2) ?_
  intro p e s m below meth c s₁ hnm hret hlk D0
  rw [ef_cCR m t (Int32.ofNat a) (Int32.ofNat b)]
  refine g_iloadN D0 1 d_jdk_65m132_0 rfl rfl ?_
  by_cases z0 : (Int32.ofNat a) = (0 : Int32)
  · refine g_ifN D0 4 d_jdk_65m132_1 (teq z0).2 rfl ?_
    refine g_iloadN D0 5 d_jdk_65m132_4 rfl rfl ?_
    refine g_aloadN D0 6 d_jdk_65m132_5 rfl rfl rfl ?_
    refine g_alen D0 7 V_t d_jdk_65m132_6 rfl ?_
    refine g_icmpN D0 10 d_jdk_65m132_7 (feq (fun q => absurd (own_inj (by omega) (by omega) q) (fun e => hnf (own_inj (b := 0) (by omega) (by omega) z0) e))).1 rfl ?_
    refine g_aloadN D0 11 d_jdk_65m132_10 rfl rfl rfl ?_
    refine g_iloadN D0 12 d_jdk_65m132_11 rfl rfl ?_
    refine g_iloadN D0 13 d_jdk_65m132_12 rfl rfl ?_
    refine g_callS D0 16 (hw _ w_125) (hw _ w_126) (hw _ w_123) (hw _ w_127) (by decide) ((cCB l Z a0 hw [] t kt vs a b h0 n0 Z0 V_t (by omega) hbv h18).back D0 0 (hw _ w_127) (hw _ w_123) (by decide) (by decide)) rfl [(.ref t), (.int (Int32.ofNat a)), (.int (Int32.ofNat b))] rfl (lenOf pd_6 rfl) rfl (Nat.le_of_eq rfl) (by decide) (by decide) (fun _ _ _ _ => trivial) d_jdk_65m132_13 rfl ?_
    intro v116 T116 h116 L116 q116 D116
    obtain ⟨y, ky, rfl, X1⟩ := q116
    rw [List.nil_append] at D116
    show Go p e below _ (T116.setTop (mkF m 16 #[.val (.ref t), .val (.int (Int32.ofNat a)), .val (.int (Int32.ofNat b))] [(.ref y)]))
    exact r_A D116 hret rfl rfl hlk d_jdk_65m132_16 ⟨y, ky, rfl, X1⟩ (by decide) (by decide)
  refine g_ifY D0 10 d_jdk_65m132_1 (feq z0).2 (by decide) (by decide) ?_
  refine g_aloadN D0 11 d_jdk_65m132_10 rfl rfl rfl ?_
  refine g_iloadN D0 12 d_jdk_65m132_11 rfl rfl ?_
  refine g_iloadN D0 13 d_jdk_65m132_12 rfl rfl ?_
  refine g_callS D0 16 (hw _ w_125) (hw _ w_126) (hw _ w_123) (hw _ w_127) (by decide) ((cCB l Z a0 hw [] t kt vs a b h0 n0 Z0 V_t (by omega) hbv h18).back D0 0 (hw _ w_127) (hw _ w_123) (by decide) (by decide)) rfl [(.ref t), (.int (Int32.ofNat a)), (.int (Int32.ofNat b))] rfl (lenOf pd_6 rfl) rfl (Nat.le_of_eq rfl) (by decide) (by decide) (fun _ _ _ _ => trivial) d_jdk_65m132_13 rfl ?_
  intro v117 T117 h117 L117 q117 D117
  obtain ⟨y, ky, rfl, X1⟩ := q117
  rw [List.nil_append] at D117
  show Go p e below _ (T117.setTop (mkF m 16 #[.val (.ref t), .val (.int (Int32.ofNat a)), .val (.int (Int32.ofNat b))] [(.ref y)]))
  exact r_A D117 hret rfl rfl hlk d_jdk_65m132_16 ⟨y, ky, rfl, X1⟩ (by decide) (by decide)
def Q_cBB (Z : State) (x t : Addr) (h0 : Heap) (n0 : Nat) : Option Value → Heap → List Loc → Prop := (fun v h L => v = none ∧ Fr n0 L ∧ Keep h0 h [x] ∧ Exa Z h x "java/lang/String" ∧ Fld Z h x "java/lang/String" "coder" "B" (.int (0 : Int32)) ∧ Fld Z h x "java/lang/String" "value" "[B" (.ref t))
theorem cBB (l : Launch) (Z : State) (a0 : Array Value) (hw : tHW Z a0) (ws : List Jvm.Cond) (x t : Addr) (h0 : Heap) (n0 : Nat) (Z0 : n0 ≤ h0.size) (E_x : Exa Z h0 x "java/lang/String") (F_v : Fld Z h0 x "java/lang/String" "value" "[B" .null) (F_c : Fld Z h0 x "java/lang/String" "coder" "B" (.int (0 : Int32))) (gx : n0 ≤ x) :
    Con l (⟨"java/lang/String", "<init>", "([BB)V"⟩ : MethodName) jdk_42_method_151_code 3 none ws ({ frames := 1, cells := 0, slots := 0, locals := 12 } : Room) Z #[(.ref x), (.ref t), (.int (0 : Int32))] h0 (Q_cBB Z x t h0 n0) 0 0 := by
  refine enter (plainFor_of_name pn_0) ?_
  intro p e s m below meth c s₁ hnm hret hlk D0
  rw [ef_cBB m x t]
  refine g_aloadN D0 1 d_jdk_42m151_0 rfl rfl rfl ?_
  refine g_initO D0 4 (hw _ w_23) (hw _ w_24) (hw _ w_25) rfl d_jdk_42m151_1 (by decide) (W := 0) (Nat.le_of_eq rfl) (by decide) rfl ?_
  intro T118 D118
  refine g_aloadN D118 5 d_jdk_42m151_4 rfl rfl rfl ?_
  refine g_aloadN D118 6 d_jdk_42m151_5 rfl rfl rfl ?_
  refine g_putF D118 9 (hw _ w_26) Via.refl F_v E_x (Or.inr ⟨(hw _ w_27), rfl, hnm⟩) (hw _ w_14) (ty := (.array .byte)) (by decide) rfl rfl (fun _ _ => trivial) d_jdk_42m151_6 rfl ?_
  intro T119 h119 W119 D119
  have N119 := Fr.snoc D119.st (Fr.nil n0) gx
  have F119 := F_v.same W119
  refine g_aloadN D119 10 d_jdk_42m151_9 rfl rfl rfl ?_
  refine g_iloadN D119 11 d_jdk_42m151_10 rfl rfl ?_
  refine g_putF D119 14 (hw _ w_28) Via.refl (F_c.other W119 (Or.inr (slot_ne (Or.inr (hw _ w_29)) (Or.inr (hw _ w_27)) (by decide) (t := .byte) (t' := (.array .byte)) (by decide) (by decide)))) (E_x.wr W119) (Or.inr ⟨(hw _ w_29), rfl, hnm⟩) (hw _ w_14) (ty := .byte) (by decide) rfl rfl (fun _ _ => trivial) d_jdk_42m151_11 rfl ?_
  intro T120 h120 W120 D120
  have N120 := Fr.snoc D120.st N119 gx
  have F120 := (F_c.other W119 (Or.inr (slot_ne (Or.inr (hw _ w_29)) (Or.inr (hw _ w_27)) (by decide) (t := .byte) (t' := (.array .byte)) (by decide) (by decide)))).same W120
  exact r_V D120 hret hlk d_jdk_42m151_14 ⟨rfl, N120, (((Keep.refl _ [x]).wr W119 (Or.inl (List.mem_of_getElem? (i := 0) rfl))).wr W120 (Or.inl (List.mem_of_getElem? (i := 0) rfl))), ((E_x.wr W119).wr W120), F120, (F119.other W120 (Or.inr (slot_ne (Or.inr (hw _ w_27)) (Or.inr (hw _ w_29)) (by decide) (t := (.array .byte)) (t' := .byte) (by decide) (by decide))))⟩ (by decide) (by decide)
def Q_cNS (Z : State) (t : Addr) (kt : ClassId) (cs : List Int32) (a b : Nat) (h0 : Heap) (n0 : Nat) : Option Value → Heap → List Loc → Prop := (fun v h L => ∃ y, v = some (.ref y) ∧ h0.size ≤ y ∧ Fr n0 L ∧ Ext h0 h ∧ LS Z h y ((cs.drop a).take (b - a)))
theorem cNS (l : Launch) (Z : State) (a0 : Array Value) (hw : tHW Z a0) (ws : List Jvm.Cond) (t : Addr) (kt : ClassId) (cs : List Int32) (a b : Nat) (h0 : Heap) (n0 : Nat) (Z0 : n0 ≤ h0.size) (V_t : Arv Z h0 t kt .byte (Int32.ofNat cs.length) ((cs.map StrChars.lo8).map Value.int) (.int (0 : Int32))) (hb : ∀ c ∈ cs, B8 c) (hab : a < b) (hbv : b ≤ cs.length) (h18 : cs.length ≤ 18) (hnf : a = 0 → b = cs.length → False) :
    Con l (⟨"java/lang/StringLatin1", "newString", "([BII)Ljava/lang/String;"⟩ : MethodName) jdk_43_method_47_code 3 (some (.object "java/lang/String")) ws ({ frames := 3, cells := 2, slots := 22, locals := 96 } : Room) Z #[(.ref t), (.int (Int32.ofNat a)), (.int (Int32.ofNat (b - a)))] h0 (Q_cNS Z t kt cs a b h0 n0) 2 22 := by
  refine enter (plainFor_of_name pn_1) ?_
  intro p e s m below meth c s₁ hnm hret hlk D0
  rw [ef_cNS m t (Int32.ofNat a) (Int32.ofNat (b - a))]
  have hL : ((cs.map StrChars.lo8).map Value.int).length = cs.length := by simp
  refine g_iloadN D0 1 d_jdk_43m47_0 rfl rfl ?_
  refine g_ifY D0 7 d_jdk_43m47_1 (feq (own_pos (by omega) (by omega))).2 (by decide) (by decide) ?_
  refine g_newO D0 10 (hw _ w_120) (hw _ w_14) (hw _ w_6) d_jdk_43m47_7 (by decide) (by decide) (fun _ _ => trivial) rfl ?_
  intro T121 h121 a121 g121 E121 A121 N121 D121
  refine g_dup D121 11 d_jdk_43m47_10 rfl rfl ?_
  refine g_aloadN D121 12 d_jdk_43m47_11 rfl rfl rfl ?_
  refine g_iloadN D121 13 d_jdk_43m47_12 rfl rfl ?_
  refine g_iloadN D121 14 d_jdk_43m47_13 rfl rfl ?_
  refine g_iloadN D121 15 d_jdk_43m47_14 rfl rfl ?_
  refine g_iadd D121 16 d_jdk_43m47_15 rfl ?_
  rw [own_add, show a + (b - a) = b from by omega]
  refine g_callS D121 19 (hw _ w_121) (hw _ w_122) (hw _ w_123) (hw _ w_124) (by decide) ((cCR l Z a0 hw [] t kt ((cs.map StrChars.lo8).map Value.int) a b h121 n0 (Nat.le_trans Z0 E121.1) (by rw [hL]; exact (V_t.ext E121)) hab (by omega) (by omega) (fun p q => hnf p (by omega))).back D121 2 (hw _ w_124) (hw _ w_123) (by decide) (by decide)) rfl [(.ref t), (.int (Int32.ofNat a)), (.int (Int32.ofNat b))] rfl (lenOf pd_6 rfl) rfl (Nat.le_of_eq rfl) (by decide) (by decide) (fun _ _ _ _ => trivial) d_jdk_43m47_16 rfl ?_
  intro v122 T122 h122 L122 q122 D122
  obtain ⟨y122, k122, rfl, g122, N122, E122, V122⟩ := q122
  have NF122 := Fr.app (Fr.nil n0) N122
  show Go p e below _ (T122.setTop (mkF m 19 #[.val (.ref t), .val (.int (Int32.ofNat a)), .val (.int (Int32.ofNat (b - a)))] [(.ref y122), (.ref a121), (.ref a121)]))
  refine g_iconst D122 20 (0 : Int32) d_jdk_43m47_19 rfl rfl ?_
  refine g_callN D122 23 rfl (hw _ w_136) (hw _ w_20) (hw _ w_22) (by decide) ((cBB l Z a0 hw [] a121 y122 h122 n0 (Nat.le_trans (Nat.le_trans Z0 E121.1) E122.1) (A121.ext E122) ((N121 (Or.inr (hw _ w_27)) (ty := (.array .byte)) (by decide)).ext E122) ((N121 (Or.inr (hw _ w_29)) (ty := .byte) (by decide)).ext E122) (Nat.le_trans Z0 (Nat.le_of_eq g121.symm))).back D122 1 (hw _ w_22) (hw _ w_6) (by decide) (by decide)) rfl [(.ref y122), (.int (0 : Int32))] rfl (lenOf pd_7 rfl) rfl (Nat.le_of_eq rfl) (by decide) (by decide) (fun _ _ _ _ => trivial) d_jdk_43m47_20 rfl ?_
  intro v123 T123 h123 L123 q123 D123
  obtain ⟨rfl, N123, K123, A123, C123, F123⟩ := q123
  have NF123 := Fr.app NF122 N123
  show Go p e below _ (T123.setTop (mkF m 23 #[.val (.ref t), .val (.int (Int32.ofNat a)), .val (.int (Int32.ofNat (b - a)))] [(.ref a121)]))
  exact r_A D123 hret rfl rfl hlk d_jdk_43m47_23 ⟨a121, rfl, (Nat.le_trans (Nat.le_refl _) (Nat.le_of_eq g121.symm)), NF123, Keep.toExt ((((Keep.refl _ []).ext E121).ext E122).trans K123 (allS (Or.inr (Nat.le_trans (Nat.le_refl _) (Nat.le_of_eq g121.symm))) all0)), y122, k122, A123, C123, F123, own_V8 (V122.keep K123 (ninS (Ne.symm (Nat.ne_of_lt (Nat.lt_of_lt_of_le A121.lt g122))) nin0)) hbv, own_mem hb, by simp; omega⟩ (by decide) (by decide)
theorem cCF_r (l : Launch) (Z : State) (a0 : Array Value) (hw : tHW Z a0) (ws : List Jvm.Cond) (i j n : Int32) (fa : Addr) (h0 : Heap) (n0 : Nat) (Z0 : n0 ≤ h0.size) (h1 : ¬ i < 0) (h2 : ¬ j < i) (h3 : ¬ n < j) :
    Con l (⟨"jdk/internal/util/Preconditions", "checkFromToIndex", "(IIILjava/util/function/BiFunction;)I"⟩ : MethodName) jdk_41_method_12_code 4 (some .int) ws ({ frames := 0, cells := 0, slots := 0, locals := 0 } : Room) Z #[(.int i), (.int j), (.int n), (.ref fa)] h0 (fun v h L => v = some (.int i) ∧ L = [] ∧ h = h0) 0 0 := by
  refine enter (plainFor_of_name pn_3) ?_
  intro p e s m below meth c s₁ hnm hret hlk D0
  rw [ef_cCF_r m i j n fa]
  refine g_iloadN D0 1 d_jdk_41m12_0 rfl rfl ?_
  refine g_ifN D0 4 d_jdk_41m12_1 (flt h1).1 rfl ?_
  refine g_iloadN D0 5 d_jdk_41m12_4 rfl rfl ?_
  refine g_iloadN D0 6 d_jdk_41m12_5 rfl rfl ?_
  refine g_icmpN D0 9 d_jdk_41m12_6 (flt h2).2.2.1 rfl ?_
  refine g_iloadN D0 10 d_jdk_41m12_9 rfl rfl ?_
  refine g_iloadN D0 11 d_jdk_41m12_10 rfl rfl ?_
  refine g_icmpY D0 22 d_jdk_41m12_11 (flt h3).2.2.2 (by decide) (by decide) ?_
  refine g_iloadN D0 23 d_jdk_41m12_22 rfl rfl ?_
  exact r_I D0 hret hlk d_jdk_41m12_23 ⟨rfl, rfl, rfl⟩ (by decide) (by decide)
theorem cCF_n (l : Launch) (Z : State) (a0 : Array Value) (hw : tHW Z a0) (ws : List Jvm.Cond) (i j n : Int32) (h0 : Heap) (n0 : Nat) (Z0 : n0 ≤ h0.size) (h1 : ¬ i < 0) (h2 : ¬ j < i) (h3 : ¬ n < j) :
    Con l (⟨"jdk/internal/util/Preconditions", "checkFromToIndex", "(IIILjava/util/function/BiFunction;)I"⟩ : MethodName) jdk_41_method_12_code 4 (some .int) ws ({ frames := 0, cells := 0, slots := 0, locals := 0 } : Room) Z #[(.int i), (.int j), (.int n), .null] h0 (fun v h L => v = some (.int i) ∧ L = [] ∧ h = h0) 0 0 := by
  refine enter (plainFor_of_name pn_3) ?_
  intro p e s m below meth c s₁ hnm hret hlk D0
  rw [ef_cCF_n m i j n]
  refine g_iloadN D0 1 d_jdk_41m12_0 rfl rfl ?_
  refine g_ifN D0 4 d_jdk_41m12_1 (flt h1).1 rfl ?_
  refine g_iloadN D0 5 d_jdk_41m12_4 rfl rfl ?_
  refine g_iloadN D0 6 d_jdk_41m12_5 rfl rfl ?_
  refine g_icmpN D0 9 d_jdk_41m12_6 (flt h2).2.2.1 rfl ?_
  refine g_iloadN D0 10 d_jdk_41m12_9 rfl rfl ?_
  refine g_iloadN D0 11 d_jdk_41m12_10 rfl rfl ?_
  refine g_icmpY D0 22 d_jdk_41m12_11 (flt h3).2.2.2 (by decide) (by decide) ?_
  refine g_iloadN D0 23 d_jdk_41m12_22 rfl rfl ?_
  exact r_I D0 hret hlk d_jdk_41m12_23 ⟨rfl, rfl, rfl⟩ (by decide) (by decide)
theorem cBE (l : Launch) (Z : State) (a0 : Array Value) (hw : tHW Z a0) (ws : List Jvm.Cond) (i j n : Int32) (fm : Value) (h0 : Heap) (n0 : Nat) (Z0 : n0 ≤ h0.size) (OLD : Old Z n0 h0) (SFm : tSF Z fm) (rfm : fm.isRef = true) (h1 : ¬ i < 0) (h2 : ¬ j < i) (h3 : ¬ n < j) :
    Con l (⟨"java/lang/String", "checkBoundsBeginEnd", "(III)V"⟩ : MethodName) jdk_42_method_158_code 3 none ws ({ frames := 1, cells := 0, slots := 0, locals := 20 } : Room) Z #[(.int i), (.int j), (.int n)] h0 (fun v h L => v = none ∧ L = [] ∧ h = h0) 0 0 := by
  refine enter (plainFor_of_name pn_0) ?_
  intro p e s m below meth c s₁ hnm hret hlk D0
  rw [ef_cBE m i j n]
  obtain ⟨fa, rfl⟩ | rfl := ref_cases rfm
  · refine g_iloadN D0 1 d_jdk_42m158_0 rfl rfl ?_
    refine g_iloadN D0 2 d_jdk_42m158_1 rfl rfl ?_
    refine g_iloadN D0 3 d_jdk_42m158_2 rfl rfl ?_
    refine g_getS D0 6 (hw _ w_112) Via.refl (SFm.ext OLD.2) d_jdk_42m158_3 rfl ?_
    intro T124 D124
    refine g_callSp D124 9 (hw _ w_114) (hw _ w_115) (hw _ w_113) (hw _ w_116) (by decide) ((cCF_r l Z a0 hw [] i j n fa h0 n0 Z0 h1 h2 h3).back D124 0 (hw _ w_116) (hw _ w_113) (by decide) (by decide)) rfl [(.int i), (.int j), (.int n), (.ref fa)] rfl (lenOf pd_8 rfl) rfl (Nat.le_of_eq rfl) (by decide) (by decide) d_jdk_42m158_6 rfl ?_
    intro v125 T125 q125 D125
    subst q125
    show Go p e below _ (T125.setTop (mkF m 9 #[.val (.int i), .val (.int j), .val (.int n)] [(.int i)]))
    refine g_pop D125 10 d_jdk_42m158_9 rfl rfl ?_
    exact r_V D125 hret hlk d_jdk_42m158_10 ⟨rfl, rfl, rfl⟩ (by decide) (by decide)
  · refine g_iloadN D0 1 d_jdk_42m158_0 rfl rfl ?_
    refine g_iloadN D0 2 d_jdk_42m158_1 rfl rfl ?_
    refine g_iloadN D0 3 d_jdk_42m158_2 rfl rfl ?_
    refine g_getS D0 6 (hw _ w_112) Via.refl (SFm.ext OLD.2) d_jdk_42m158_3 rfl ?_
    intro T126 D126
    refine g_callSp D126 9 (hw _ w_114) (hw _ w_115) (hw _ w_113) (hw _ w_116) (by decide) ((cCF_n l Z a0 hw [] i j n h0 n0 Z0 h1 h2 h3).back D126 0 (hw _ w_116) (hw _ w_113) (by decide) (by decide)) rfl [(.int i), (.int j), (.int n), .null] rfl (lenOf pd_8 rfl) rfl (Nat.le_of_eq rfl) (by decide) (by decide) d_jdk_42m158_6 rfl ?_
    intro v127 T127 q127 D127
    subst q127
    show Go p e below _ (T127.setTop (mkF m 9 #[.val (.int i), .val (.int j), .val (.int n)] [(.int i)]))
    refine g_pop D127 10 d_jdk_42m158_9 rfl rfl ?_
    exact r_V D127 hret hlk d_jdk_42m158_10 ⟨rfl, rfl, rfl⟩ (by decide) (by decide)
def Q_cSub (Z : State) (x : Addr) (cs : List Int32) (a b : Nat) (zc : Int32) (fm : Value) (h0 : Heap) (n0 : Nat) : Option Value → Heap → List Loc → Prop := (fun v h L => ∃ y, v = some (.ref y) ∧ h0.size ≤ y ∧ Fr n0 L ∧ Ext h0 h ∧ LS Z h y ((cs.drop a).take (b - a)))
theorem cSub (l : Launch) (Z : State) (a0 : Array Value) (hw : tHW Z a0) (ws : List Jvm.Cond) (x : Addr) (cs : List Int32) (a b : Nat) (zc : Int32) (fm : Value) (h0 : Heap) (n0 : Nat) (Z0 : n0 ≤ h0.size) (OLD : Old Z n0 h0) (CS : tCS Z zc) (hzc : ¬ zc = 0) (SFm : tSF Z fm) (rfm : fm.isRef = true) (X_x : LS Z h0 x cs) (hab : a < b) (hbv : b ≤ cs.length) (h18 : cs.length ≤ 18) (ha : 0 < a) :
    Con l (⟨"java/lang/String", "substring", "(II)Ljava/lang/String;"⟩ : MethodName) jdk_42_method_92_code 5 (some (.object "java/lang/String")) ws ({ frames := 4, cells := 2, slots := 22, locals := 112 } : Room) Z #[(.ref x), (.int (Int32.ofNat a)), (.int (Int32.ofNat b))] h0 (Q_cSub Z x cs a b zc fm h0 n0) 2 22 := by
  refine enter (plainFor_of_name pn_0) ?_
  intro p e s m below meth c s₁ hnm hret hlk D0
  rw [ef_cSub m x (Int32.ofNat a) (Int32.ofNat b)]
  obtain ⟨t, kt, x1, x2, x3, x4, x5, x6⟩ := (id X_x)
  refine g_aloadN D0 1 d_jdk_42m92_0 rfl rfl rfl ?_
  refine g_callVp D0 4 (hw _ w_77) (hw _ w_78) (notFace_of_selects (args := #[]) (mvT D0.wm (hw _ w_80))) (hw _ w_80) (hw _ w_79) (by decide) (TS.lenB 0 D0 hw (LS.ts X_x) (CS.ext OLD.2) hzc (by decide) (by decide)) x1 rfl [] rfl (lenOf pd_4 rfl) rfl (Nat.le_of_eq rfl) (by decide) (by decide) d_jdk_42m92_1 rfl ?_
  intro v128 T128 q128 D128
  subst q128
  show Go p e below _ (T128.setTop (mkF m 4 #[.val (.ref x), .val (.int (Int32.ofNat a)), .val (.int (Int32.ofNat b)), .unset, .unset] [(.int (Int32.ofNat cs.length))]))
  refine g_istoreN D128 5 #[.val (.ref x), .val (.int (Int32.ofNat a)), .val (.int (Int32.ofNat b)), .val (.int (Int32.ofNat cs.length)), .unset] d_jdk_42m92_4 rfl rfl ?_
  refine g_iloadN D128 6 d_jdk_42m92_5 rfl rfl ?_
  refine g_iloadN D128 7 d_jdk_42m92_6 rfl rfl ?_
  refine g_iloadN D128 8 d_jdk_42m92_7 rfl rfl ?_
  refine g_callSp D128 11 (hw _ w_109) (hw _ w_110) (hw _ w_6) (hw _ w_111) (by decide) ((cBE l Z a0 hw [] _ _ _ fm h0 n0 Z0 OLD SFm rfm (own_nneg (by omega)) (fun q => absurd ((own_lt (by omega) (by omega)).mp q) (by omega)) (fun q => absurd ((own_lt (by omega) (by omega)).mp q) (by omega))).back D128 0 (hw _ w_111) (hw _ w_6) (by decide) (by decide)) rfl [(.int (Int32.ofNat a)), (.int (Int32.ofNat b)), (.int (Int32.ofNat cs.length))] rfl (lenOf pd_9 rfl) rfl (Nat.le_of_eq rfl) (by decide) (by decide) d_jdk_42m92_8 rfl ?_
  intro v129 T129 q129 D129
  subst q129
  show Go p e below _ (T129.setTop (mkF m 11 #[.val (.ref x), .val (.int (Int32.ofNat a)), .val (.int (Int32.ofNat b)), .val (.int (Int32.ofNat cs.length)), .unset] []))
  refine g_iloadN D129 12 d_jdk_42m92_11 rfl rfl ?_
  refine g_ifY D129 22 d_jdk_42m92_12 (feq (own_pos (by omega) (by omega))).2 (by decide) (by decide) ?_
  refine g_iloadN D129 23 d_jdk_42m92_22 rfl rfl ?_
  refine g_iloadN D129 24 d_jdk_42m92_23 rfl rfl ?_
  refine g_isub D129 25 d_jdk_42m92_24 rfl ?_
  rw [own_subN (show a ≤ b by omega)]
  refine g_istore D129 27 #[.val (.ref x), .val (.int (Int32.ofNat a)), .val (.int (Int32.ofNat b)), .val (.int (Int32.ofNat cs.length)), .val (.int (Int32.ofNat (b - a)))] d_jdk_42m92_25 rfl rfl ?_
  refine g_aloadN D129 28 d_jdk_42m92_27 rfl rfl rfl ?_
  refine g_callVp D129 31 (hw _ w_72) (hw _ w_73) (notFace_of_selects (args := #[]) (mvT D129.wm (hw _ w_75))) (hw _ w_75) (hw _ w_74) (by decide) ((cILs l Z a0 hw [] x zc h0 n0 Z0 OLD CS hzc x2).back D129 0 (hw _ w_76) (hw _ w_6) (by decide) (by decide)) x1 rfl [] rfl (lenOf pd_3 rfl) rfl (Nat.le_of_eq rfl) (by decide) (by decide) d_jdk_42m92_28 rfl ?_
  intro v130 T130 q130 D130
  subst q130
  show Go p e below _ (T130.setTop (mkF m 31 #[.val (.ref x), .val (.int (Int32.ofNat a)), .val (.int (Int32.ofNat b)), .val (.int (Int32.ofNat cs.length)), .val (.int (Int32.ofNat (b - a)))] [(.int (1 : Int32))]))
  refine g_ifN D130 34 d_jdk_42m92_31 (by decide) rfl ?_
  refine g_aloadN D130 35 d_jdk_42m92_34 rfl rfl rfl ?_
  refine g_getF D130 38 (hw _ w_26) Via.refl x3 d_jdk_42m92_35 rfl ?_
  intro T131 D131
  refine g_iloadN D131 39 d_jdk_42m92_38 rfl rfl ?_
  refine g_iload D131 41 d_jdk_42m92_39 rfl rfl ?_
  refine g_callS D131 44 (hw _ w_117) (hw _ w_118) (hw _ w_11) (hw _ w_119) (by decide) ((cNS l Z a0 hw [] t kt cs a b h0 n0 Z0 x4 x5 hab hbv h18 (fun p q => absurd p (by omega))).back D131 0 (hw _ w_119) (hw _ w_11) (by decide) (by decide)) rfl [(.ref t), (.int (Int32.ofNat a)), (.int (Int32.ofNat (b - a)))] rfl (lenOf pd_10 rfl) rfl (Nat.le_of_eq rfl) (by decide) (by decide) (fun _ _ _ _ => trivial) d_jdk_42m92_41 rfl ?_
  intro v132 T132 h132 L132 q132 D132
  obtain ⟨y, rfl, X1⟩ := q132
  rw [List.nil_append] at D132
  show Go p e below _ (T132.setTop (mkF m 44 #[.val (.ref x), .val (.int (Int32.ofNat a)), .val (.int (Int32.ofNat b)), .val (.int (Int32.ofNat cs.length)), .val (.int (Int32.ofNat (b - a)))] [(.ref y)]))
  refine g_goto D132 57 d_jdk_42m92_44 (by decide) (by decide) ?_
  exact r_A D132 hret rfl rfl hlk d_jdk_42m92_57 ⟨y, rfl, X1⟩ (by decide) (by decide)
def Q_cNS0 (Z : State) (t : Addr) (i : Int32) (h0 : Heap) (n0 : Nat) : Option Value → Heap → List Loc → Prop := (fun v h L => ∃ y, v = some (.ref y) ∧ Fr n0 L ∧ Ext h0 h ∧ LS Z h y [])
theorem cNS0 (l : Launch) (Z : State) (a0 : Array Value) (hw : tHW Z a0) (ws : List Jvm.Cond) (t : Addr) (i : Int32) (h0 : Heap) (n0 : Nat) (Z0 : n0 ≤ h0.size) (hEW : EW Z a0 consts_1)  :
    ConW l (⟨"java/lang/StringLatin1", "newString", "([BII)Ljava/lang/String;"⟩ : MethodName) jdk_43_method_47_code 3 (some (.object "java/lang/String")) ws ({ frames := 0, cells := 2, slots := 4, locals := 0 } : Room) Z consts_1 #[(.ref t), (.int i), (.int (0 : Int32))] h0 (Q_cNS0 Z t i h0 n0) 2 4 := by
  refine enterW (plainFor_of_name pn_1) ?_
  intro p e s m below meth c s₁ hnm hret hlk D0
  rw [ef_cNS0 m t i]
  refine g_iloadN D0 1 d_jdk_43m47_0 rfl rfl ?_
  refine g_ifN D0 4 d_jdk_43m47_1 (by decide) rfl ?_
  refine g_ldcS D0 6 hEW (hw _ w_193) (fun a ha => hw a (wsa a ha)) (by decide) [] 0 ⟨by decide, rfl⟩ ⟨by decide, by decide⟩ (by decide) (by decide) d_jdk_43m47_4 (by decide) (by decide) rfl ?_
  intro s133 T133 h133 la133 lt133 lk133 E133 X133 C133 V133 A133 HS133 SF133 D133
  exact r_Aw D133 hEW hret rfl rfl hlk d_jdk_43m47_6 ⟨la133, rfl, (Fr.nil n0), Keep.toExt ((Keep.refl _ []).ext E133), lt133, lk133, X133, C133, V133, A133, b8_nil, by decide⟩ (by decide) (by decide)
def Q_cSub0 (Z : State) (x : Addr) (cs : List Int32) (a : Nat) (zc : Int32) (fm : Value) (h0 : Heap) (n0 : Nat) : Option Value → Heap → List Loc → Prop := (fun v h L => ∃ y, v = some (.ref y) ∧ Fr n0 L ∧ Ext h0 h ∧ LS Z h y [])
theorem cSub0 (l : Launch) (Z : State) (a0 : Array Value) (hw : tHW Z a0) (ws : List Jvm.Cond) (x : Addr) (cs : List Int32) (a : Nat) (zc : Int32) (fm : Value) (h0 : Heap) (n0 : Nat) (Z0 : n0 ≤ h0.size) (hEW : EW Z a0 consts_1) (OLD : Old Z n0 h0) (CS : tCS Z zc) (hzc : ¬ zc = 0) (SFm : tSF Z fm) (rfm : fm.isRef = true) (X_x : LS Z h0 x cs) (hbv : a ≤ cs.length) (h18 : cs.length ≤ 18) (ha : 0 < a) :
    ConW l (⟨"java/lang/String", "substring", "(II)Ljava/lang/String;"⟩ : MethodName) jdk_42_method_92_code 5 (some (.object "java/lang/String")) ws ({ frames := 2, cells := 2, slots := 4, locals := 46 } : Room) Z consts_1 #[(.ref x), (.int (Int32.ofNat a)), (.int (Int32.ofNat a))] h0 (Q_cSub0 Z x cs a zc fm h0 n0) 2 4 := by
  refine enterW (plainFor_of_name pn_0) ?_
  intro p e s m below meth c s₁ hnm hret hlk D0
  rw [ef_cSub0 m x (Int32.ofNat a) (Int32.ofNat a)]
  obtain ⟨t, kt, x1, x2, x3, x4, x5, x6⟩ := (id X_x)
  refine g_aloadN D0 1 d_jdk_42m92_0 rfl rfl rfl ?_
  refine g_callVp D0 4 (hw _ w_77) (hw _ w_78) (notFace_of_selects (args := #[]) (mvT D0.wm (hw _ w_80))) (hw _ w_80) (hw _ w_79) (by decide) (TS.lenB 0 D0 hw (LS.ts X_x) (CS.ext OLD.2) hzc (by decide) (by decide)) x1 rfl [] rfl (lenOf pd_4 rfl) rfl (Nat.le_of_eq rfl) (by decide) (by decide) d_jdk_42m92_1 rfl ?_
  intro v134 T134 q134 D134
  subst q134
  show Go p e below _ (T134.setTop (mkF m 4 #[.val (.ref x), .val (.int (Int32.ofNat a)), .val (.int (Int32.ofNat a)), .unset, .unset] [(.int (Int32.ofNat cs.length))]))
  refine g_istoreN D134 5 #[.val (.ref x), .val (.int (Int32.ofNat a)), .val (.int (Int32.ofNat a)), .val (.int (Int32.ofNat cs.length)), .unset] d_jdk_42m92_4 rfl rfl ?_
  refine g_iloadN D134 6 d_jdk_42m92_5 rfl rfl ?_
  refine g_iloadN D134 7 d_jdk_42m92_6 rfl rfl ?_
  refine g_iloadN D134 8 d_jdk_42m92_7 rfl rfl ?_
  refine g_callSp D134 11 (hw _ w_109) (hw _ w_110) (hw _ w_6) (hw _ w_111) (by decide) ((cBE l Z a0 hw [] _ _ _ fm h0 n0 Z0 OLD SFm rfm (own_nneg (by omega)) (fun q => Int32.lt_irrefl q) (fun q => absurd ((own_lt (by omega) (by omega)).mp q) (by omega))).back D134 0 (hw _ w_111) (hw _ w_6) (by decide) (by decide)) rfl [(.int (Int32.ofNat a)), (.int (Int32.ofNat a)), (.int (Int32.ofNat cs.length))] rfl (lenOf pd_9 rfl) rfl (Nat.le_of_eq rfl) (by decide) (by decide) d_jdk_42m92_8 rfl ?_
  intro v135 T135 q135 D135
  subst q135
  show Go p e below _ (T135.setTop (mkF m 11 #[.val (.ref x), .val (.int (Int32.ofNat a)), .val (.int (Int32.ofNat a)), .val (.int (Int32.ofNat cs.length)), .unset] []))
  refine g_iloadN D135 12 d_jdk_42m92_11 rfl rfl ?_
  refine g_ifY D135 22 d_jdk_42m92_12 (feq (own_pos (by omega) (by omega))).2 (by decide) (by decide) ?_
  refine g_iloadN D135 23 d_jdk_42m92_22 rfl rfl ?_
  refine g_iloadN D135 24 d_jdk_42m92_23 rfl rfl ?_
  refine g_isub D135 25 d_jdk_42m92_24 rfl ?_
  rw [own_subN (Nat.le_refl a), show Int32.ofNat (a - a) = (0 : Int32) from by rw [Nat.sub_self]; rfl]
  refine g_istore D135 27 #[.val (.ref x), .val (.int (Int32.ofNat a)), .val (.int (Int32.ofNat a)), .val (.int (Int32.ofNat cs.length)), .val (.int (0 : Int32))] d_jdk_42m92_25 rfl rfl ?_
  refine g_aloadN D135 28 d_jdk_42m92_27 rfl rfl rfl ?_
  refine g_callVp D135 31 (hw _ w_72) (hw _ w_73) (notFace_of_selects (args := #[]) (mvT D135.wm (hw _ w_75))) (hw _ w_75) (hw _ w_74) (by decide) ((cILs l Z a0 hw [] x zc h0 n0 Z0 OLD CS hzc x2).back D135 0 (hw _ w_76) (hw _ w_6) (by decide) (by decide)) x1 rfl [] rfl (lenOf pd_3 rfl) rfl (Nat.le_of_eq rfl) (by decide) (by decide) d_jdk_42m92_28 rfl ?_
  intro v136 T136 q136 D136
  subst q136
  show Go p e below _ (T136.setTop (mkF m 31 #[.val (.ref x), .val (.int (Int32.ofNat a)), .val (.int (Int32.ofNat a)), .val (.int (Int32.ofNat cs.length)), .val (.int (0 : Int32))] [(.int (1 : Int32))]))
  refine g_ifN D136 34 d_jdk_42m92_31 (by decide) rfl ?_
  refine g_aloadN D136 35 d_jdk_42m92_34 rfl rfl rfl ?_
  refine g_getF D136 38 (hw _ w_26) Via.refl x3 d_jdk_42m92_35 rfl ?_
  intro T137 D137
  refine g_iloadN D137 39 d_jdk_42m92_38 rfl rfl ?_
  refine g_iload D137 41 d_jdk_42m92_39 rfl rfl ?_
  refine g_callSW D137 44 hEW (hw _ w_117) (hw _ w_118) (hw _ w_11) (hw _ w_119) (by decide) (cNS0 l Z a0 hw [] t _ h0 n0 Z0 hEW) rfl [(.ref t), (.int (Int32.ofNat a)), (.int (0 : Int32))] rfl (lenOf pd_10 rfl) rfl 0 (Nat.le_of_eq rfl) (by decide) (by decide) (by decide) (by decide) d_jdk_42m92_41 rfl ?_
  intro v138 s138 T138 h138 L138 q138 SF138 D138
  obtain ⟨y, rfl, X1⟩ := q138
  rw [List.nil_append] at D138
  show Go p e below _ (T138.setTop (mkF m 44 #[.val (.ref x), .val (.int (Int32.ofNat a)), .val (.int (Int32.ofNat a)), .val (.int (Int32.ofNat cs.length)), .val (.int (0 : Int32))] [(.ref y)]))
  refine g_goto D138 57 d_jdk_42m92_44 (by decide) (by decide) ?_
  exact r_Aw D138 hEW hret rfl rfl hlk d_jdk_42m92_57 ⟨y, rfl, X1⟩ (by decide) (by decide)
def Q_cTrL_n3 (Z : State) (t : Addr) (kt : ClassId) (lc : Int32) (h0 : Heap) (n0 : Nat) : Option Value → Heap → List Loc → Prop := (fun v h L => ∃ y, v = some (.ref y) ∧ h0.size ≤ y ∧ Fr n0 L ∧ Ext h0 h ∧ LS Z h y (own_trim [(32 : Int32), lc, (9 : Int32)]))
theorem cTrL_n3 (l : Launch) (Z : State) (a0 : Array Value) (hw : tHW Z a0) (ws : List Jvm.Cond) (t : Addr) (kt : ClassId) (lc : Int32) (h0 : Heap) (n0 : Nat) (Z0 : n0 ≤ h0.size) (V_t : Arv Z h0 t kt .byte (3 : Int32) [(.int (StrChars.lo8 (32 : Int32))), (.int (StrChars.lo8 lc)), (.int (StrChars.lo8 (9 : Int32)))] (.int (0 : Int32))) (hb : ∀ c ∈ ([(32 : Int32), lc, (9 : Int32)] : List Int32), B8 c) (hL : (32 : Int32) < lc) :
    Con l (⟨"java/lang/StringLatin1", "trim", "([B)Ljava/lang/String;"⟩ : MethodName) jdk_43_method_36_code 3 (some (.object "java/lang/String")) ws ({ frames := 4, cells := 2, slots := 22, locals := 112 } : Room) Z #[(.ref t)] h0 (Q_cTrL_n3 Z t kt lc h0 n0) 2 22 := by
  refine enter (plainFor_of_name pn_1) ?_
  intro p e s m below meth c s₁ hnm hret hlk D0
  rw [ef_cTrL_n3 m t]
  have H0 := hb (32 : Int32) (List.mem_of_getElem? (i := 0) rfl)
  have H1 := hb lc (List.mem_of_getElem? (i := 1) rfl)
  have H2 := hb (9 : Int32) (List.mem_of_getElem? (i := 2) rfl)
  refine g_aloadN D0 1 d_jdk_43m36_0 rfl rfl rfl ?_
  refine g_alen D0 2 V_t d_jdk_43m36_1 rfl ?_
  refine g_istoreN D0 3 #[.val (.ref t), .val (.int (3 : Int32)), .unset] d_jdk_43m36_2 rfl rfl ?_
  refine g_iconst D0 4 (0 : Int32) d_jdk_43m36_3 rfl rfl ?_
  refine g_istoreN D0 5 #[.val (.ref t), .val (.int (3 : Int32)), .val (.int (0 : Int32))] d_jdk_43m36_4 rfl rfl ?_
  refine g_iloadN D0 6 d_jdk_43m36_5 rfl rfl ?_
  refine g_iloadN D0 7 d_jdk_43m36_6 rfl rfl ?_
  refine g_icmpN D0 10 d_jdk_43m36_7 (by decide) rfl ?_
  refine g_aloadN D0 11 d_jdk_43m36_10 rfl rfl rfl ?_
  refine g_iloadN D0 12 d_jdk_43m36_11 rfl rfl ?_
  refine g_baload D0 13 V_t (v := (.int (StrChars.lo8 (32 : Int32)))) ⟨by decide, by decide⟩ rfl d_jdk_43m36_12 rfl ?_
  refine g_sipush D0 16 (255 : Int32) d_jdk_43m36_13 rfl rfl ?_
  refine g_iand D0 17 d_jdk_43m36_16 rfl ?_
  rw [own_msk H0]
  refine g_bipush D0 19 (32 : Int32) d_jdk_43m36_17 rfl rfl ?_
  refine g_icmpN D0 22 d_jdk_43m36_19 (by decide) rfl ?_
  refine g_iinc D0 25 (1 : Int32) #[.val (.ref t), .val (.int (3 : Int32)), .val (.int ((0 : Int32) + (1 : Int32)))] d_jdk_43m36_22 rfl rfl rfl rfl ?_
  rw [show ((0 : Int32) + (1 : Int32)) = (1 : Int32) from by decide]
  refine g_goto D0 5 d_jdk_43m36_25 (by decide) (by decide) ?_
  refine g_iloadN D0 6 d_jdk_43m36_5 rfl rfl ?_
  refine g_iloadN D0 7 d_jdk_43m36_6 rfl rfl ?_
  refine g_icmpN D0 10 d_jdk_43m36_7 (by decide) rfl ?_
  refine g_aloadN D0 11 d_jdk_43m36_10 rfl rfl rfl ?_
  refine g_iloadN D0 12 d_jdk_43m36_11 rfl rfl ?_
  refine g_baload D0 13 V_t (v := (.int (StrChars.lo8 lc))) ⟨by decide, by decide⟩ rfl d_jdk_43m36_12 rfl ?_
  refine g_sipush D0 16 (255 : Int32) d_jdk_43m36_13 rfl rfl ?_
  refine g_iand D0 17 d_jdk_43m36_16 rfl ?_
  rw [own_msk H1]
  refine g_bipush D0 19 (32 : Int32) d_jdk_43m36_17 rfl rfl ?_
  refine g_icmpY D0 28 d_jdk_43m36_19 (tlt hL).2.2.1 (by decide) (by decide) ?_
  refine g_iloadN D0 29 d_jdk_43m36_28 rfl rfl ?_
  refine g_iloadN D0 30 d_jdk_43m36_29 rfl rfl ?_
  refine g_icmpN D0 33 d_jdk_43m36_30 (by decide) rfl ?_
  refine g_aloadN D0 34 d_jdk_43m36_33 rfl rfl rfl ?_
  refine g_iloadN D0 35 d_jdk_43m36_34 rfl rfl ?_
  refine g_iconst D0 36 (1 : Int32) d_jdk_43m36_35 rfl rfl ?_
  refine g_isub D0 37 d_jdk_43m36_36 rfl ?_
  rw [show ((3 : Int32) - (1 : Int32)) = (2 : Int32) from by decide]
  refine g_baload D0 38 V_t (v := (.int (StrChars.lo8 (9 : Int32)))) ⟨by decide, by decide⟩ rfl d_jdk_43m36_37 rfl ?_
  refine g_sipush D0 41 (255 : Int32) d_jdk_43m36_38 rfl rfl ?_
  refine g_iand D0 42 d_jdk_43m36_41 rfl ?_
  rw [own_msk H2]
  refine g_bipush D0 44 (32 : Int32) d_jdk_43m36_42 rfl rfl ?_
  refine g_icmpN D0 47 d_jdk_43m36_44 (by decide) rfl ?_
  refine g_iinc D0 50 (-1 : Int32) #[.val (.ref t), .val (.int ((3 : Int32) + (-1 : Int32))), .val (.int (1 : Int32))] d_jdk_43m36_47 rfl rfl rfl rfl ?_
  rw [show ((3 : Int32) + (-1 : Int32)) = (2 : Int32) from by decide]
  refine g_goto D0 28 d_jdk_43m36_50 (by decide) (by decide) ?_
  refine g_iloadN D0 29 d_jdk_43m36_28 rfl rfl ?_
  refine g_iloadN D0 30 d_jdk_43m36_29 rfl rfl ?_
  refine g_icmpN D0 33 d_jdk_43m36_30 (by decide) rfl ?_
  refine g_aloadN D0 34 d_jdk_43m36_33 rfl rfl rfl ?_
  refine g_iloadN D0 35 d_jdk_43m36_34 rfl rfl ?_
  refine g_iconst D0 36 (1 : Int32) d_jdk_43m36_35 rfl rfl ?_
  refine g_isub D0 37 d_jdk_43m36_36 rfl ?_
  rw [show ((2 : Int32) - (1 : Int32)) = (1 : Int32) from by decide]
  refine g_baload D0 38 V_t (v := (.int (StrChars.lo8 lc))) ⟨by decide, by decide⟩ rfl d_jdk_43m36_37 rfl ?_
  refine g_sipush D0 41 (255 : Int32) d_jdk_43m36_38 rfl rfl ?_
  refine g_iand D0 42 d_jdk_43m36_41 rfl ?_
  rw [own_msk H1]
  refine g_bipush D0 44 (32 : Int32) d_jdk_43m36_42 rfl rfl ?_
  refine g_icmpY D0 53 d_jdk_43m36_44 (tlt hL).2.2.1 (by decide) (by decide) ?_
  refine g_iloadN D0 54 d_jdk_43m36_53 rfl rfl ?_
  refine g_ifY D0 63 d_jdk_43m36_54 (by decide) (by decide) (by decide) ?_
  refine g_aloadN D0 64 d_jdk_43m36_63 rfl rfl rfl ?_
  refine g_iloadN D0 65 d_jdk_43m36_64 rfl rfl ?_
  refine g_iloadN D0 66 d_jdk_43m36_65 rfl rfl ?_
  refine g_iloadN D0 67 d_jdk_43m36_66 rfl rfl ?_
  refine g_isub D0 68 d_jdk_43m36_67 rfl ?_
  rw [show ((2 : Int32) - (1 : Int32)) = (1 : Int32) from by decide]
  refine g_callS D0 71 (hw _ w_145) (hw _ w_118) (hw _ w_11) (hw _ w_119) (by decide) ((cNS l Z a0 hw [] t kt [(32 : Int32), lc, (9 : Int32)] 1 2 h0 n0 Z0 V_t hb (by decide) (Nat.le_of_ble_eq_true rfl) (Nat.le_of_ble_eq_true rfl) (fun p q => by first | (exact absurd p (by decide)) | (exact absurd q (by simp)))).back D0 0 (hw _ w_119) (hw _ w_11) (by decide) (by decide)) rfl [(.ref t), (.int (1 : Int32)), (.int (1 : Int32))] rfl (lenOf pd_10 rfl) rfl (Nat.le_of_eq rfl) (by decide) (by decide) (fun _ _ _ _ => trivial) d_jdk_43m36_68 rfl ?_
  intro v139 T139 h139 L139 q139 D139
  obtain ⟨y139, rfl, g139, N139, E139, X139⟩ := q139
  have NF139 := Fr.app (Fr.nil n0) N139
  show Go p e below _ (T139.setTop (mkF m 71 #[.val (.ref t), .val (.int (2 : Int32)), .val (.int (1 : Int32))] [(.ref y139)]))
  refine g_goto D139 75 d_jdk_43m36_71 (by decide) (by decide) ?_
  exact r_A D139 hret rfl rfl hlk d_jdk_43m36_75 ⟨y139, rfl, g139, NF139, Keep.toExt ((Keep.refl _ []).ext E139), by rw [(own_l0 (by decide) hL (by decide))]; exact X139⟩ (by decide) (by decide)
def Q_cTr_n3 (Z : State) (x : Addr) (zc : Int32) (lc : Int32) (h0 : Heap) (n0 : Nat) : Option Value → Heap → List Loc → Prop := (fun v h L => ∃ y, v = some (.ref y) ∧ h0.size ≤ y ∧ Fr n0 L ∧ Ext h0 h ∧ LS Z h y (own_trim [(32 : Int32), lc, (9 : Int32)]))
theorem cTr_n3 (l : Launch) (Z : State) (a0 : Array Value) (hw : tHW Z a0) (ws : List Jvm.Cond) (x : Addr) (zc : Int32) (lc : Int32) (h0 : Heap) (n0 : Nat) (Z0 : n0 ≤ h0.size) (OLD : Old Z n0 h0) (CS : tCS Z zc) (hzc : ¬ zc = 0) (X_x : LS Z h0 x [(32 : Int32), lc, (9 : Int32)]) (hL : (32 : Int32) < lc) :
    Con l (⟨"java/lang/String", "trim", "()Ljava/lang/String;"⟩ : MethodName) jdk_42_method_113_code 2 (some (.object "java/lang/String")) ws ({ frames := 5, cells := 2, slots := 22, locals := 128 } : Room) Z #[(.ref x)] h0 (Q_cTr_n3 Z x zc lc h0 n0) 2 22 := by
  refine enter (plainFor_of_name pn_0) ?_
  intro p e s m below meth c s₁ hnm hret hlk D0
  rw [ef_cTr_n3 m x]
  obtain ⟨t, kt, x1, x2, x3, x4, x5, x6⟩ := (id X_x)
  refine g_aloadN D0 1 d_jdk_42m113_0 rfl rfl rfl ?_
  refine g_callVp D0 4 (hw _ w_72) (hw _ w_73) (notFace_of_selects (args := #[]) (mvT D0.wm (hw _ w_75))) (hw _ w_75) (hw _ w_74) (by decide) ((cILs l Z a0 hw [] x zc h0 n0 Z0 OLD CS hzc x2).back D0 0 (hw _ w_76) (hw _ w_6) (by decide) (by decide)) x1 rfl [] rfl (lenOf pd_3 rfl) rfl (Nat.le_of_eq rfl) (by decide) (by decide) d_jdk_42m113_1 rfl ?_
  intro v140 T140 q140 D140
  subst q140
  show Go p e below _ (T140.setTop (mkF m 4 #[.val (.ref x), .unset] [(.int (1 : Int32))]))
  refine g_ifN D140 7 d_jdk_42m113_4 (by decide) rfl ?_
  refine g_aloadN D140 8 d_jdk_42m113_7 rfl rfl rfl ?_
  refine g_getF D140 11 (hw _ w_26) Via.refl x3 d_jdk_42m113_8 rfl ?_
  intro T141 D141
  refine g_callS D141 14 (hw _ w_142) (hw _ w_143) (hw _ w_11) (hw _ w_144) (by decide) ((cTrL_n3 l Z a0 hw [] t kt lc h0 n0 Z0 x4 x5 hL).back D141 0 (hw _ w_144) (hw _ w_11) (by decide) (by decide)) rfl [(.ref t)] rfl (lenOf pd_11 rfl) rfl (Nat.le_of_eq rfl) (by decide) (by decide) (fun _ _ _ _ => trivial) d_jdk_42m113_11 rfl ?_
  intro v142 T142 h142 L142 q142 D142
  obtain ⟨y, rfl, g142, N142, E142, X1⟩ := q142
  have NF142 := Fr.app (Fr.nil n0) N142
  show Go p e below _ (T142.setTop (mkF m 14 #[.val (.ref x), .unset] [(.ref y)]))
  refine g_goto D142 24 d_jdk_42m113_14 (by decide) (by decide) ?_
  refine g_astoreN D142 25 #[.val (.ref x), .val (.ref y)] d_jdk_42m113_24 rfl rfl rfl ?_
  refine g_aloadN D142 26 d_jdk_42m113_25 rfl rfl rfl ?_
  refine g_nnY D142 33 d_jdk_42m113_26 (by decide) (by decide) ?_
  refine g_aloadN D142 34 d_jdk_42m113_33 rfl rfl rfl ?_
  exact r_A D142 hret rfl rfl hlk d_jdk_42m113_34 ⟨y, rfl, g142, NF142, Keep.toExt ((Keep.refl _ []).ext E142), X1⟩ (by decide) (by decide)
def Q_cTrL_n2 (Z : State) (t : Addr) (kt : ClassId) (lc : Int32) (h0 : Heap) (n0 : Nat) : Option Value → Heap → List Loc → Prop := (fun v h L => ∃ y, v = some (.ref y) ∧ h0.size ≤ y ∧ Fr n0 L ∧ Ext h0 h ∧ LS Z h y (own_trim [lc, (32 : Int32)]))
theorem cTrL_n2 (l : Launch) (Z : State) (a0 : Array Value) (hw : tHW Z a0) (ws : List Jvm.Cond) (t : Addr) (kt : ClassId) (lc : Int32) (h0 : Heap) (n0 : Nat) (Z0 : n0 ≤ h0.size) (V_t : Arv Z h0 t kt .byte (2 : Int32) [(.int (StrChars.lo8 lc)), (.int (StrChars.lo8 (32 : Int32)))] (.int (0 : Int32))) (hb : ∀ c ∈ ([lc, (32 : Int32)] : List Int32), B8 c) (hL : (32 : Int32) < lc) :
    Con l (⟨"java/lang/StringLatin1", "trim", "([B)Ljava/lang/String;"⟩ : MethodName) jdk_43_method_36_code 3 (some (.object "java/lang/String")) ws ({ frames := 4, cells := 2, slots := 22, locals := 112 } : Room) Z #[(.ref t)] h0 (Q_cTrL_n2 Z t kt lc h0 n0) 2 22 := by
  refine enter (plainFor_of_name pn_1) ?_
  intro p e s m below meth c s₁ hnm hret hlk D0
  rw [ef_cTrL_n2 m t]
  have H0 := hb lc (List.mem_of_getElem? (i := 0) rfl)
  have H1 := hb (32 : Int32) (List.mem_of_getElem? (i := 1) rfl)
  refine g_aloadN D0 1 d_jdk_43m36_0 rfl rfl rfl ?_
  refine g_alen D0 2 V_t d_jdk_43m36_1 rfl ?_
  refine g_istoreN D0 3 #[.val (.ref t), .val (.int (2 : Int32)), .unset] d_jdk_43m36_2 rfl rfl ?_
  refine g_iconst D0 4 (0 : Int32) d_jdk_43m36_3 rfl rfl ?_
  refine g_istoreN D0 5 #[.val (.ref t), .val (.int (2 : Int32)), .val (.int (0 : Int32))] d_jdk_43m36_4 rfl rfl ?_
  refine g_iloadN D0 6 d_jdk_43m36_5 rfl rfl ?_
  refine g_iloadN D0 7 d_jdk_43m36_6 rfl rfl ?_
  refine g_icmpN D0 10 d_jdk_43m36_7 (by decide) rfl ?_
  refine g_aloadN D0 11 d_jdk_43m36_10 rfl rfl rfl ?_
  refine g_iloadN D0 12 d_jdk_43m36_11 rfl rfl ?_
  refine g_baload D0 13 V_t (v := (.int (StrChars.lo8 lc))) ⟨by decide, by decide⟩ rfl d_jdk_43m36_12 rfl ?_
  refine g_sipush D0 16 (255 : Int32) d_jdk_43m36_13 rfl rfl ?_
  refine g_iand D0 17 d_jdk_43m36_16 rfl ?_
  rw [own_msk H0]
  refine g_bipush D0 19 (32 : Int32) d_jdk_43m36_17 rfl rfl ?_
  refine g_icmpY D0 28 d_jdk_43m36_19 (tlt hL).2.2.1 (by decide) (by decide) ?_
  refine g_iloadN D0 29 d_jdk_43m36_28 rfl rfl ?_
  refine g_iloadN D0 30 d_jdk_43m36_29 rfl rfl ?_
  refine g_icmpN D0 33 d_jdk_43m36_30 (by decide) rfl ?_
  refine g_aloadN D0 34 d_jdk_43m36_33 rfl rfl rfl ?_
  refine g_iloadN D0 35 d_jdk_43m36_34 rfl rfl ?_
  refine g_iconst D0 36 (1 : Int32) d_jdk_43m36_35 rfl rfl ?_
  refine g_isub D0 37 d_jdk_43m36_36 rfl ?_
  rw [show ((2 : Int32) - (1 : Int32)) = (1 : Int32) from by decide]
  refine g_baload D0 38 V_t (v := (.int (StrChars.lo8 (32 : Int32)))) ⟨by decide, by decide⟩ rfl d_jdk_43m36_37 rfl ?_
  refine g_sipush D0 41 (255 : Int32) d_jdk_43m36_38 rfl rfl ?_
  refine g_iand D0 42 d_jdk_43m36_41 rfl ?_
  rw [own_msk H1]
  refine g_bipush D0 44 (32 : Int32) d_jdk_43m36_42 rfl rfl ?_
  refine g_icmpN D0 47 d_jdk_43m36_44 (by decide) rfl ?_
  refine g_iinc D0 50 (-1 : Int32) #[.val (.ref t), .val (.int ((2 : Int32) + (-1 : Int32))), .val (.int (0 : Int32))] d_jdk_43m36_47 rfl rfl rfl rfl ?_
  rw [show ((2 : Int32) + (-1 : Int32)) = (1 : Int32) from by decide]
  refine g_goto D0 28 d_jdk_43m36_50 (by decide) (by decide) ?_
  refine g_iloadN D0 29 d_jdk_43m36_28 rfl rfl ?_
  refine g_iloadN D0 30 d_jdk_43m36_29 rfl rfl ?_
  refine g_icmpN D0 33 d_jdk_43m36_30 (by decide) rfl ?_
  refine g_aloadN D0 34 d_jdk_43m36_33 rfl rfl rfl ?_
  refine g_iloadN D0 35 d_jdk_43m36_34 rfl rfl ?_
  refine g_iconst D0 36 (1 : Int32) d_jdk_43m36_35 rfl rfl ?_
  refine g_isub D0 37 d_jdk_43m36_36 rfl ?_
  rw [show ((1 : Int32) - (1 : Int32)) = (0 : Int32) from by decide]
  refine g_baload D0 38 V_t (v := (.int (StrChars.lo8 lc))) ⟨by decide, by decide⟩ rfl d_jdk_43m36_37 rfl ?_
  refine g_sipush D0 41 (255 : Int32) d_jdk_43m36_38 rfl rfl ?_
  refine g_iand D0 42 d_jdk_43m36_41 rfl ?_
  rw [own_msk H0]
  refine g_bipush D0 44 (32 : Int32) d_jdk_43m36_42 rfl rfl ?_
  refine g_icmpY D0 53 d_jdk_43m36_44 (tlt hL).2.2.1 (by decide) (by decide) ?_
  refine g_iloadN D0 54 d_jdk_43m36_53 rfl rfl ?_
  refine g_ifN D0 57 d_jdk_43m36_54 (by decide) rfl ?_
  refine g_iloadN D0 58 d_jdk_43m36_57 rfl rfl ?_
  refine g_aloadN D0 59 d_jdk_43m36_58 rfl rfl rfl ?_
  refine g_alen D0 60 V_t d_jdk_43m36_59 rfl ?_
  refine g_icmpN D0 63 d_jdk_43m36_60 (by decide) rfl ?_
  refine g_aloadN D0 64 d_jdk_43m36_63 rfl rfl rfl ?_
  refine g_iloadN D0 65 d_jdk_43m36_64 rfl rfl ?_
  refine g_iloadN D0 66 d_jdk_43m36_65 rfl rfl ?_
  refine g_iloadN D0 67 d_jdk_43m36_66 rfl rfl ?_
  refine g_isub D0 68 d_jdk_43m36_67 rfl ?_
  rw [show ((1 : Int32) - (0 : Int32)) = (1 : Int32) from by decide]
  refine g_callS D0 71 (hw _ w_145) (hw _ w_118) (hw _ w_11) (hw _ w_119) (by decide) ((cNS l Z a0 hw [] t kt [lc, (32 : Int32)] 0 1 h0 n0 Z0 V_t hb (by decide) (Nat.le_of_ble_eq_true rfl) (Nat.le_of_ble_eq_true rfl) (fun p q => by first | (exact absurd p (by decide)) | (exact absurd q (by simp)))).back D0 0 (hw _ w_119) (hw _ w_11) (by decide) (by decide)) rfl [(.ref t), (.int (0 : Int32)), (.int (1 : Int32))] rfl (lenOf pd_10 rfl) rfl (Nat.le_of_eq rfl) (by decide) (by decide) (fun _ _ _ _ => trivial) d_jdk_43m36_68 rfl ?_
  intro v143 T143 h143 L143 q143 D143
  obtain ⟨y143, rfl, g143, N143, E143, X143⟩ := q143
  have NF143 := Fr.app (Fr.nil n0) N143
  show Go p e below _ (T143.setTop (mkF m 71 #[.val (.ref t), .val (.int (1 : Int32)), .val (.int (0 : Int32))] [(.ref y143)]))
  refine g_goto D143 75 d_jdk_43m36_71 (by decide) (by decide) ?_
  exact r_A D143 hret rfl rfl hlk d_jdk_43m36_75 ⟨y143, rfl, g143, NF143, Keep.toExt ((Keep.refl _ []).ext E143), by rw [(own_l1 hL (by decide))]; exact X143⟩ (by decide) (by decide)
def Q_cTr_n2 (Z : State) (x : Addr) (zc : Int32) (lc : Int32) (h0 : Heap) (n0 : Nat) : Option Value → Heap → List Loc → Prop := (fun v h L => ∃ y, v = some (.ref y) ∧ h0.size ≤ y ∧ Fr n0 L ∧ Ext h0 h ∧ LS Z h y (own_trim [lc, (32 : Int32)]))
theorem cTr_n2 (l : Launch) (Z : State) (a0 : Array Value) (hw : tHW Z a0) (ws : List Jvm.Cond) (x : Addr) (zc : Int32) (lc : Int32) (h0 : Heap) (n0 : Nat) (Z0 : n0 ≤ h0.size) (OLD : Old Z n0 h0) (CS : tCS Z zc) (hzc : ¬ zc = 0) (X_x : LS Z h0 x [lc, (32 : Int32)]) (hL : (32 : Int32) < lc) :
    Con l (⟨"java/lang/String", "trim", "()Ljava/lang/String;"⟩ : MethodName) jdk_42_method_113_code 2 (some (.object "java/lang/String")) ws ({ frames := 5, cells := 2, slots := 22, locals := 128 } : Room) Z #[(.ref x)] h0 (Q_cTr_n2 Z x zc lc h0 n0) 2 22 := by
  refine enter (plainFor_of_name pn_0) ?_
  intro p e s m below meth c s₁ hnm hret hlk D0
  rw [ef_cTr_n2 m x]
  obtain ⟨t, kt, x1, x2, x3, x4, x5, x6⟩ := (id X_x)
  refine g_aloadN D0 1 d_jdk_42m113_0 rfl rfl rfl ?_
  refine g_callVp D0 4 (hw _ w_72) (hw _ w_73) (notFace_of_selects (args := #[]) (mvT D0.wm (hw _ w_75))) (hw _ w_75) (hw _ w_74) (by decide) ((cILs l Z a0 hw [] x zc h0 n0 Z0 OLD CS hzc x2).back D0 0 (hw _ w_76) (hw _ w_6) (by decide) (by decide)) x1 rfl [] rfl (lenOf pd_3 rfl) rfl (Nat.le_of_eq rfl) (by decide) (by decide) d_jdk_42m113_1 rfl ?_
  intro v144 T144 q144 D144
  subst q144
  show Go p e below _ (T144.setTop (mkF m 4 #[.val (.ref x), .unset] [(.int (1 : Int32))]))
  refine g_ifN D144 7 d_jdk_42m113_4 (by decide) rfl ?_
  refine g_aloadN D144 8 d_jdk_42m113_7 rfl rfl rfl ?_
  refine g_getF D144 11 (hw _ w_26) Via.refl x3 d_jdk_42m113_8 rfl ?_
  intro T145 D145
  refine g_callS D145 14 (hw _ w_142) (hw _ w_143) (hw _ w_11) (hw _ w_144) (by decide) ((cTrL_n2 l Z a0 hw [] t kt lc h0 n0 Z0 x4 x5 hL).back D145 0 (hw _ w_144) (hw _ w_11) (by decide) (by decide)) rfl [(.ref t)] rfl (lenOf pd_11 rfl) rfl (Nat.le_of_eq rfl) (by decide) (by decide) (fun _ _ _ _ => trivial) d_jdk_42m113_11 rfl ?_
  intro v146 T146 h146 L146 q146 D146
  obtain ⟨y, rfl, g146, N146, E146, X1⟩ := q146
  have NF146 := Fr.app (Fr.nil n0) N146
  show Go p e below _ (T146.setTop (mkF m 14 #[.val (.ref x), .unset] [(.ref y)]))
  refine g_goto D146 24 d_jdk_42m113_14 (by decide) (by decide) ?_
  refine g_astoreN D146 25 #[.val (.ref x), .val (.ref y)] d_jdk_42m113_24 rfl rfl rfl ?_
  refine g_aloadN D146 26 d_jdk_42m113_25 rfl rfl rfl ?_
  refine g_nnY D146 33 d_jdk_42m113_26 (by decide) (by decide) ?_
  refine g_aloadN D146 34 d_jdk_42m113_33 rfl rfl rfl ?_
  exact r_A D146 hret rfl rfl hlk d_jdk_42m113_34 ⟨y, rfl, g146, NF146, Keep.toExt ((Keep.refl _ []).ext E146), X1⟩ (by decide) (by decide)
def Q_cTrL_n4 (Z : State) (t : Addr) (kt : ClassId) (lc : Int32) (h0 : Heap) (n0 : Nat) : Option Value → Heap → List Loc → Prop := (fun v h L => ∃ y, v = some (.ref y) ∧ h0.size ≤ y ∧ Fr n0 L ∧ Ext h0 h ∧ LS Z h y (own_trim [(59 : Int32), (32 : Int32), lc, (9 : Int32)]))
theorem cTrL_n4 (l : Launch) (Z : State) (a0 : Array Value) (hw : tHW Z a0) (ws : List Jvm.Cond) (t : Addr) (kt : ClassId) (lc : Int32) (h0 : Heap) (n0 : Nat) (Z0 : n0 ≤ h0.size) (V_t : Arv Z h0 t kt .byte (4 : Int32) [(.int (StrChars.lo8 (59 : Int32))), (.int (StrChars.lo8 (32 : Int32))), (.int (StrChars.lo8 lc)), (.int (StrChars.lo8 (9 : Int32)))] (.int (0 : Int32))) (hb : ∀ c ∈ ([(59 : Int32), (32 : Int32), lc, (9 : Int32)] : List Int32), B8 c) (hL : (32 : Int32) < lc) :
    Con l (⟨"java/lang/StringLatin1", "trim", "([B)Ljava/lang/String;"⟩ : MethodName) jdk_43_method_36_code 3 (some (.object "java/lang/String")) ws ({ frames := 4, cells := 2, slots := 22, locals := 112 } : Room) Z #[(.ref t)] h0 (Q_cTrL_n4 Z t kt lc h0 n0) 2 22 := by
  refine enter (plainFor_of_name pn_1) ?_
  intro p e s m below meth c s₁ hnm hret hlk D0
  rw [ef_cTrL_n4 m t]
  have H0 := hb (59 : Int32) (List.mem_of_getElem? (i := 0) rfl)
  have H1 := hb (32 : Int32) (List.mem_of_getElem? (i := 1) rfl)
  have H2 := hb lc (List.mem_of_getElem? (i := 2) rfl)
  have H3 := hb (9 : Int32) (List.mem_of_getElem? (i := 3) rfl)
  refine g_aloadN D0 1 d_jdk_43m36_0 rfl rfl rfl ?_
  refine g_alen D0 2 V_t d_jdk_43m36_1 rfl ?_
  refine g_istoreN D0 3 #[.val (.ref t), .val (.int (4 : Int32)), .unset] d_jdk_43m36_2 rfl rfl ?_
  refine g_iconst D0 4 (0 : Int32) d_jdk_43m36_3 rfl rfl ?_
  refine g_istoreN D0 5 #[.val (.ref t), .val (.int (4 : Int32)), .val (.int (0 : Int32))] d_jdk_43m36_4 rfl rfl ?_
  refine g_iloadN D0 6 d_jdk_43m36_5 rfl rfl ?_
  refine g_iloadN D0 7 d_jdk_43m36_6 rfl rfl ?_
  refine g_icmpN D0 10 d_jdk_43m36_7 (by decide) rfl ?_
  refine g_aloadN D0 11 d_jdk_43m36_10 rfl rfl rfl ?_
  refine g_iloadN D0 12 d_jdk_43m36_11 rfl rfl ?_
  refine g_baload D0 13 V_t (v := (.int (StrChars.lo8 (59 : Int32)))) ⟨by decide, by decide⟩ rfl d_jdk_43m36_12 rfl ?_
  refine g_sipush D0 16 (255 : Int32) d_jdk_43m36_13 rfl rfl ?_
  refine g_iand D0 17 d_jdk_43m36_16 rfl ?_
  rw [own_msk H0]
  refine g_bipush D0 19 (32 : Int32) d_jdk_43m36_17 rfl rfl ?_
  refine g_icmpY D0 28 d_jdk_43m36_19 (by decide) (by decide) (by decide) ?_
  refine g_iloadN D0 29 d_jdk_43m36_28 rfl rfl ?_
  refine g_iloadN D0 30 d_jdk_43m36_29 rfl rfl ?_
  refine g_icmpN D0 33 d_jdk_43m36_30 (by decide) rfl ?_
  refine g_aloadN D0 34 d_jdk_43m36_33 rfl rfl rfl ?_
  refine g_iloadN D0 35 d_jdk_43m36_34 rfl rfl ?_
  refine g_iconst D0 36 (1 : Int32) d_jdk_43m36_35 rfl rfl ?_
  refine g_isub D0 37 d_jdk_43m36_36 rfl ?_
  rw [show ((4 : Int32) - (1 : Int32)) = (3 : Int32) from by decide]
  refine g_baload D0 38 V_t (v := (.int (StrChars.lo8 (9 : Int32)))) ⟨by decide, by decide⟩ rfl d_jdk_43m36_37 rfl ?_
  refine g_sipush D0 41 (255 : Int32) d_jdk_43m36_38 rfl rfl ?_
  refine g_iand D0 42 d_jdk_43m36_41 rfl ?_
  rw [own_msk H3]
  refine g_bipush D0 44 (32 : Int32) d_jdk_43m36_42 rfl rfl ?_
  refine g_icmpN D0 47 d_jdk_43m36_44 (by decide) rfl ?_
  refine g_iinc D0 50 (-1 : Int32) #[.val (.ref t), .val (.int ((4 : Int32) + (-1 : Int32))), .val (.int (0 : Int32))] d_jdk_43m36_47 rfl rfl rfl rfl ?_
  rw [show ((4 : Int32) + (-1 : Int32)) = (3 : Int32) from by decide]
  refine g_goto D0 28 d_jdk_43m36_50 (by decide) (by decide) ?_
  refine g_iloadN D0 29 d_jdk_43m36_28 rfl rfl ?_
  refine g_iloadN D0 30 d_jdk_43m36_29 rfl rfl ?_
  refine g_icmpN D0 33 d_jdk_43m36_30 (by decide) rfl ?_
  refine g_aloadN D0 34 d_jdk_43m36_33 rfl rfl rfl ?_
  refine g_iloadN D0 35 d_jdk_43m36_34 rfl rfl ?_
  refine g_iconst D0 36 (1 : Int32) d_jdk_43m36_35 rfl rfl ?_
  refine g_isub D0 37 d_jdk_43m36_36 rfl ?_
  rw [show ((3 : Int32) - (1 : Int32)) = (2 : Int32) from by decide]
  refine g_baload D0 38 V_t (v := (.int (StrChars.lo8 lc))) ⟨by decide, by decide⟩ rfl d_jdk_43m36_37 rfl ?_
  refine g_sipush D0 41 (255 : Int32) d_jdk_43m36_38 rfl rfl ?_
  refine g_iand D0 42 d_jdk_43m36_41 rfl ?_
  rw [own_msk H2]
  refine g_bipush D0 44 (32 : Int32) d_jdk_43m36_42 rfl rfl ?_
  refine g_icmpY D0 53 d_jdk_43m36_44 (tlt hL).2.2.1 (by decide) (by decide) ?_
  refine g_iloadN D0 54 d_jdk_43m36_53 rfl rfl ?_
  refine g_ifN D0 57 d_jdk_43m36_54 (by decide) rfl ?_
  refine g_iloadN D0 58 d_jdk_43m36_57 rfl rfl ?_
  refine g_aloadN D0 59 d_jdk_43m36_58 rfl rfl rfl ?_
  refine g_alen D0 60 V_t d_jdk_43m36_59 rfl ?_
  refine g_icmpN D0 63 d_jdk_43m36_60 (by decide) rfl ?_
  refine g_aloadN D0 64 d_jdk_43m36_63 rfl rfl rfl ?_
  refine g_iloadN D0 65 d_jdk_43m36_64 rfl rfl ?_
  refine g_iloadN D0 66 d_jdk_43m36_65 rfl rfl ?_
  refine g_iloadN D0 67 d_jdk_43m36_66 rfl rfl ?_
  refine g_isub D0 68 d_jdk_43m36_67 rfl ?_
  rw [show ((3 : Int32) - (0 : Int32)) = (3 : Int32) from by decide]
  refine g_callS D0 71 (hw _ w_145) (hw _ w_118) (hw _ w_11) (hw _ w_119) (by decide) ((cNS l Z a0 hw [] t kt [(59 : Int32), (32 : Int32), lc, (9 : Int32)] 0 3 h0 n0 Z0 V_t hb (by decide) (Nat.le_of_ble_eq_true rfl) (Nat.le_of_ble_eq_true rfl) (fun p q => by first | (exact absurd p (by decide)) | (exact absurd q (by simp)))).back D0 0 (hw _ w_119) (hw _ w_11) (by decide) (by decide)) rfl [(.ref t), (.int (0 : Int32)), (.int (3 : Int32))] rfl (lenOf pd_10 rfl) rfl (Nat.le_of_eq rfl) (by decide) (by decide) (fun _ _ _ _ => trivial) d_jdk_43m36_68 rfl ?_
  intro v147 T147 h147 L147 q147 D147
  obtain ⟨y147, rfl, g147, N147, E147, X147⟩ := q147
  have NF147 := Fr.app (Fr.nil n0) N147
  show Go p e below _ (T147.setTop (mkF m 71 #[.val (.ref t), .val (.int (3 : Int32)), .val (.int (0 : Int32))] [(.ref y147)]))
  refine g_goto D147 75 d_jdk_43m36_71 (by decide) (by decide) ?_
  exact r_A D147 hret rfl rfl hlk d_jdk_43m36_75 ⟨y147, rfl, g147, NF147, Keep.toExt ((Keep.refl _ []).ext E147), by rw [(own_l2 (by decide) (by decide) hL (by decide))]; exact X147⟩ (by decide) (by decide)
def Q_cTr_n4 (Z : State) (x : Addr) (zc : Int32) (lc : Int32) (h0 : Heap) (n0 : Nat) : Option Value → Heap → List Loc → Prop := (fun v h L => ∃ y, v = some (.ref y) ∧ h0.size ≤ y ∧ Fr n0 L ∧ Ext h0 h ∧ LS Z h y (own_trim [(59 : Int32), (32 : Int32), lc, (9 : Int32)]))
theorem cTr_n4 (l : Launch) (Z : State) (a0 : Array Value) (hw : tHW Z a0) (ws : List Jvm.Cond) (x : Addr) (zc : Int32) (lc : Int32) (h0 : Heap) (n0 : Nat) (Z0 : n0 ≤ h0.size) (OLD : Old Z n0 h0) (CS : tCS Z zc) (hzc : ¬ zc = 0) (X_x : LS Z h0 x [(59 : Int32), (32 : Int32), lc, (9 : Int32)]) (hL : (32 : Int32) < lc) :
    Con l (⟨"java/lang/String", "trim", "()Ljava/lang/String;"⟩ : MethodName) jdk_42_method_113_code 2 (some (.object "java/lang/String")) ws ({ frames := 5, cells := 2, slots := 22, locals := 128 } : Room) Z #[(.ref x)] h0 (Q_cTr_n4 Z x zc lc h0 n0) 2 22 := by
  refine enter (plainFor_of_name pn_0) ?_
  intro p e s m below meth c s₁ hnm hret hlk D0
  rw [ef_cTr_n4 m x]
  obtain ⟨t, kt, x1, x2, x3, x4, x5, x6⟩ := (id X_x)
  refine g_aloadN D0 1 d_jdk_42m113_0 rfl rfl rfl ?_
  refine g_callVp D0 4 (hw _ w_72) (hw _ w_73) (notFace_of_selects (args := #[]) (mvT D0.wm (hw _ w_75))) (hw _ w_75) (hw _ w_74) (by decide) ((cILs l Z a0 hw [] x zc h0 n0 Z0 OLD CS hzc x2).back D0 0 (hw _ w_76) (hw _ w_6) (by decide) (by decide)) x1 rfl [] rfl (lenOf pd_3 rfl) rfl (Nat.le_of_eq rfl) (by decide) (by decide) d_jdk_42m113_1 rfl ?_
  intro v148 T148 q148 D148
  subst q148
  show Go p e below _ (T148.setTop (mkF m 4 #[.val (.ref x), .unset] [(.int (1 : Int32))]))
  refine g_ifN D148 7 d_jdk_42m113_4 (by decide) rfl ?_
  refine g_aloadN D148 8 d_jdk_42m113_7 rfl rfl rfl ?_
  refine g_getF D148 11 (hw _ w_26) Via.refl x3 d_jdk_42m113_8 rfl ?_
  intro T149 D149
  refine g_callS D149 14 (hw _ w_142) (hw _ w_143) (hw _ w_11) (hw _ w_144) (by decide) ((cTrL_n4 l Z a0 hw [] t kt lc h0 n0 Z0 x4 x5 hL).back D149 0 (hw _ w_144) (hw _ w_11) (by decide) (by decide)) rfl [(.ref t)] rfl (lenOf pd_11 rfl) rfl (Nat.le_of_eq rfl) (by decide) (by decide) (fun _ _ _ _ => trivial) d_jdk_42m113_11 rfl ?_
  intro v150 T150 h150 L150 q150 D150
  obtain ⟨y, rfl, g150, N150, E150, X1⟩ := q150
  have NF150 := Fr.app (Fr.nil n0) N150
  show Go p e below _ (T150.setTop (mkF m 14 #[.val (.ref x), .unset] [(.ref y)]))
  refine g_goto D150 24 d_jdk_42m113_14 (by decide) (by decide) ?_
  refine g_astoreN D150 25 #[.val (.ref x), .val (.ref y)] d_jdk_42m113_24 rfl rfl rfl ?_
  refine g_aloadN D150 26 d_jdk_42m113_25 rfl rfl rfl ?_
  refine g_nnY D150 33 d_jdk_42m113_26 (by decide) (by decide) ?_
  refine g_aloadN D150 34 d_jdk_42m113_33 rfl rfl rfl ?_
  exact r_A D150 hret rfl rfl hlk d_jdk_42m113_34 ⟨y, rfl, g150, NF150, Keep.toExt ((Keep.refl _ []).ext E150), X1⟩ (by decide) (by decide)
def Q_cTrL_v4 (Z : State) (t : Addr) (kt : ClassId) (c0 c1 c2 c3 : Int32) (h0 : Heap) (n0 : Nat) : Option Value → Heap → List Loc → Prop := (fun v h L => ∃ w, v = some w ∧ Fr n0 L ∧ Ext h0 h ∧ ((w = .null ∧ own_trim [c0, c1, c2, c3] = [c0, c1, c2, c3]) ∨ ∃ y, w = .ref y ∧ LS Z h y (own_trim [c0, c1, c2, c3])))
theorem cTrL_v4 (l : Launch) (Z : State) (a0 : Array Value) (hw : tHW Z a0) (ws : List Jvm.Cond) (t : Addr) (kt : ClassId) (c0 c1 c2 c3 : Int32) (h0 : Heap) (n0 : Nat) (Z0 : n0 ≤ h0.size) (hEW : EW Z a0 consts_1) (V_t : Arv Z h0 t kt .byte (4 : Int32) [(.int (StrChars.lo8 c0)), (.int (StrChars.lo8 c1)), (.int (StrChars.lo8 c2)), (.int (StrChars.lo8 c3))] (.int (0 : Int32))) (hb : ∀ c ∈ ([c0, c1, c2, c3] : List Int32), B8 c)  :
    ConW l (⟨"java/lang/StringLatin1", "trim", "([B)Ljava/lang/String;"⟩ : MethodName) jdk_43_method_36_code 3 (some (.object "java/lang/String")) ws ({ frames := 4, cells := 2, slots := 22, locals := 112 } : Room) Z consts_1 #[(.ref t)] h0 (Q_cTrL_v4 Z t kt c0 c1 c2 c3 h0 n0) 2 22 := by
  refine enterW (plainFor_of_name pn_1) ?_
  intro p e s m below meth c s₁ hnm hret hlk D0
  rw [ef_cTrL_v4 m t]
  have H0 := hb c0 (List.mem_of_getElem? (i := 0) rfl)
  have H1 := hb c1 (List.mem_of_getElem? (i := 1) rfl)
  have H2 := hb c2 (List.mem_of_getElem? (i := 2) rfl)
  have H3 := hb c3 (List.mem_of_getElem? (i := 3) rfl)
  refine g_aloadN D0 1 d_jdk_43m36_0 rfl rfl rfl ?_
  refine g_alen D0 2 V_t d_jdk_43m36_1 rfl ?_
  refine g_istoreN D0 3 #[.val (.ref t), .val (.int (4 : Int32)), .unset] d_jdk_43m36_2 rfl rfl ?_
  refine g_iconst D0 4 (0 : Int32) d_jdk_43m36_3 rfl rfl ?_
  refine g_istoreN D0 5 #[.val (.ref t), .val (.int (4 : Int32)), .val (.int (0 : Int32))] d_jdk_43m36_4 rfl rfl ?_
  refine g_iloadN D0 6 d_jdk_43m36_5 rfl rfl ?_
  refine g_iloadN D0 7 d_jdk_43m36_6 rfl rfl ?_
  refine g_icmpN D0 10 d_jdk_43m36_7 (by decide) rfl ?_
  refine g_aloadN D0 11 d_jdk_43m36_10 rfl rfl rfl ?_
  refine g_iloadN D0 12 d_jdk_43m36_11 rfl rfl ?_
  refine g_baload D0 13 V_t (v := (.int (StrChars.lo8 c0))) ⟨by decide, by decide⟩ rfl d_jdk_43m36_12 rfl ?_
  refine g_sipush D0 16 (255 : Int32) d_jdk_43m36_13 rfl rfl ?_
  refine g_iand D0 17 d_jdk_43m36_16 rfl ?_
  rw [own_msk H0]
  refine g_bipush D0 19 (32 : Int32) d_jdk_43m36_17 rfl rfl ?_
  by_cases z0 : (32 : Int32) < c0
  · refine g_icmpY D0 28 d_jdk_43m36_19 (tlt z0).2.2.1 (by decide) (by decide) ?_
    refine g_iloadN D0 29 d_jdk_43m36_28 rfl rfl ?_
    refine g_iloadN D0 30 d_jdk_43m36_29 rfl rfl ?_
    refine g_icmpN D0 33 d_jdk_43m36_30 (by decide) rfl ?_
    refine g_aloadN D0 34 d_jdk_43m36_33 rfl rfl rfl ?_
    refine g_iloadN D0 35 d_jdk_43m36_34 rfl rfl ?_
    refine g_iconst D0 36 (1 : Int32) d_jdk_43m36_35 rfl rfl ?_
    refine g_isub D0 37 d_jdk_43m36_36 rfl ?_
    rw [show ((4 : Int32) - (1 : Int32)) = (3 : Int32) from by decide]
    refine g_baload D0 38 V_t (v := (.int (StrChars.lo8 c3))) ⟨by decide, by decide⟩ rfl d_jdk_43m36_37 rfl ?_
    refine g_sipush D0 41 (255 : Int32) d_jdk_43m36_38 rfl rfl ?_
    refine g_iand D0 42 d_jdk_43m36_41 rfl ?_
    rw [own_msk H3]
    refine g_bipush D0 44 (32 : Int32) d_jdk_43m36_42 rfl rfl ?_
    by_cases z3 : (32 : Int32) < c3
    · refine g_icmpY D0 53 d_jdk_43m36_44 (tlt z3).2.2.1 (by decide) (by decide) ?_
      refine g_iloadN D0 54 d_jdk_43m36_53 rfl rfl ?_
      refine g_ifN D0 57 d_jdk_43m36_54 (by decide) rfl ?_
      refine g_iloadN D0 58 d_jdk_43m36_57 rfl rfl ?_
      refine g_aloadN D0 59 d_jdk_43m36_58 rfl rfl rfl ?_
      refine g_alen D0 60 V_t d_jdk_43m36_59 rfl ?_
      refine g_icmpY D0 74 d_jdk_43m36_60 (by decide) (by decide) (by decide) ?_
      refine g_aconst D0 75 d_jdk_43m36_74 rfl ?_
      exact r_Aw D0 hEW hret rfl rfl hlk d_jdk_43m36_75 ⟨.null, rfl, (Fr.nil n0), Keep.toExt (Keep.refl _ []), Or.inl ⟨rfl, (own_l3 z0 z3)⟩⟩ (by decide) (by decide)
    refine g_icmpN D0 47 d_jdk_43m36_44 (flt z3).2.2.1 rfl ?_
    refine g_iinc D0 50 (-1 : Int32) #[.val (.ref t), .val (.int ((4 : Int32) + (-1 : Int32))), .val (.int (0 : Int32))] d_jdk_43m36_47 rfl rfl rfl rfl ?_
    rw [show ((4 : Int32) + (-1 : Int32)) = (3 : Int32) from by decide]
    refine g_goto D0 28 d_jdk_43m36_50 (by decide) (by decide) ?_
    refine g_iloadN D0 29 d_jdk_43m36_28 rfl rfl ?_
    refine g_iloadN D0 30 d_jdk_43m36_29 rfl rfl ?_
    refine g_icmpN D0 33 d_jdk_43m36_30 (by decide) rfl ?_
    refine g_aloadN D0 34 d_jdk_43m36_33 rfl rfl rfl ?_
    refine g_iloadN D0 35 d_jdk_43m36_34 rfl rfl ?_
    refine g_iconst D0 36 (1 : Int32) d_jdk_43m36_35 rfl rfl ?_
    refine g_isub D0 37 d_jdk_43m36_36 rfl ?_
    rw [show ((3 : Int32) - (1 : Int32)) = (2 : Int32) from by decide]
    refine g_baload D0 38 V_t (v := (.int (StrChars.lo8 c2))) ⟨by decide, by decide⟩ rfl d_jdk_43m36_37 rfl ?_
    refine g_sipush D0 41 (255 : Int32) d_jdk_43m36_38 rfl rfl ?_
    refine g_iand D0 42 d_jdk_43m36_41 rfl ?_
    rw [own_msk H2]
    refine g_bipush D0 44 (32 : Int32) d_jdk_43m36_42 rfl rfl ?_
    by_cases z2 : (32 : Int32) < c2
    · refine g_icmpY D0 53 d_jdk_43m36_44 (tlt z2).2.2.1 (by decide) (by decide) ?_
      refine g_iloadN D0 54 d_jdk_43m36_53 rfl rfl ?_
      refine g_ifN D0 57 d_jdk_43m36_54 (by decide) rfl ?_
      refine g_iloadN D0 58 d_jdk_43m36_57 rfl rfl ?_
      refine g_aloadN D0 59 d_jdk_43m36_58 rfl rfl rfl ?_
      refine g_alen D0 60 V_t d_jdk_43m36_59 rfl ?_
      refine g_icmpN D0 63 d_jdk_43m36_60 (by decide) rfl ?_
      refine g_aloadN D0 64 d_jdk_43m36_63 rfl rfl rfl ?_
      refine g_iloadN D0 65 d_jdk_43m36_64 rfl rfl ?_
      refine g_iloadN D0 66 d_jdk_43m36_65 rfl rfl ?_
      refine g_iloadN D0 67 d_jdk_43m36_66 rfl rfl ?_
      refine g_isub D0 68 d_jdk_43m36_67 rfl ?_
      rw [show ((3 : Int32) - (0 : Int32)) = (3 : Int32) from by decide]
      refine g_callS D0 71 (hw _ w_145) (hw _ w_118) (hw _ w_11) (hw _ w_119) (by decide) ((cNS l Z a0 hw [] t kt [c0, c1, c2, c3] 0 3 h0 n0 Z0 V_t hb (by decide) (Nat.le_of_ble_eq_true rfl) (Nat.le_of_ble_eq_true rfl) (fun p q => by first | (exact absurd p (by decide)) | (exact absurd q (by simp)))).back D0 0 (hw _ w_119) (hw _ w_11) (by decide) (by decide)) rfl [(.ref t), (.int (0 : Int32)), (.int (3 : Int32))] rfl (lenOf pd_10 rfl) rfl (Nat.le_of_eq rfl) (by decide) (by decide) (fun _ _ _ q => by obtain ⟨_, _, _, _, E, _⟩ := q; exact D0.iv.ext E) d_jdk_43m36_68 rfl ?_
      intro v151 T151 h151 L151 q151 D151
      obtain ⟨y151, rfl, g151, N151, E151, X151⟩ := q151
      have NF151 := Fr.app (Fr.nil n0) N151
      show Go p e below _ (T151.setTop (mkF m 71 #[.val (.ref t), .val (.int (3 : Int32)), .val (.int (0 : Int32))] [(.ref y151)]))
      refine g_goto D151 75 d_jdk_43m36_71 (by decide) (by decide) ?_
      exact r_Aw D151 hEW hret rfl rfl hlk d_jdk_43m36_75 ⟨.ref y151, rfl, NF151, Keep.toExt ((Keep.refl _ []).ext E151), Or.inr ⟨y151, rfl, by rw [(own_l4 z0 z2 z3)]; exact X151⟩⟩ (by decide) (by decide)
    refine g_icmpN D0 47 d_jdk_43m36_44 (flt z2).2.2.1 rfl ?_
    refine g_iinc D0 50 (-1 : Int32) #[.val (.ref t), .val (.int ((3 : Int32) + (-1 : Int32))), .val (.int (0 : Int32))] d_jdk_43m36_47 rfl rfl rfl rfl ?_
    rw [show ((3 : Int32) + (-1 : Int32)) = (2 : Int32) from by decide]
    refine g_goto D0 28 d_jdk_43m36_50 (by decide) (by decide) ?_
    refine g_iloadN D0 29 d_jdk_43m36_28 rfl rfl ?_
    refine g_iloadN D0 30 d_jdk_43m36_29 rfl rfl ?_
    refine g_icmpN D0 33 d_jdk_43m36_30 (by decide) rfl ?_
    refine g_aloadN D0 34 d_jdk_43m36_33 rfl rfl rfl ?_
    refine g_iloadN D0 35 d_jdk_43m36_34 rfl rfl ?_
    refine g_iconst D0 36 (1 : Int32) d_jdk_43m36_35 rfl rfl ?_
    refine g_isub D0 37 d_jdk_43m36_36 rfl ?_
    rw [show ((2 : Int32) - (1 : Int32)) = (1 : Int32) from by decide]
    refine g_baload D0 38 V_t (v := (.int (StrChars.lo8 c1))) ⟨by decide, by decide⟩ rfl d_jdk_43m36_37 rfl ?_
    refine g_sipush D0 41 (255 : Int32) d_jdk_43m36_38 rfl rfl ?_
    refine g_iand D0 42 d_jdk_43m36_41 rfl ?_
    rw [own_msk H1]
    refine g_bipush D0 44 (32 : Int32) d_jdk_43m36_42 rfl rfl ?_
    by_cases z1 : (32 : Int32) < c1
    · refine g_icmpY D0 53 d_jdk_43m36_44 (tlt z1).2.2.1 (by decide) (by decide) ?_
      refine g_iloadN D0 54 d_jdk_43m36_53 rfl rfl ?_
      refine g_ifN D0 57 d_jdk_43m36_54 (by decide) rfl ?_
      refine g_iloadN D0 58 d_jdk_43m36_57 rfl rfl ?_
      refine g_aloadN D0 59 d_jdk_43m36_58 rfl rfl rfl ?_
      refine g_alen D0 60 V_t d_jdk_43m36_59 rfl ?_
      refine g_icmpN D0 63 d_jdk_43m36_60 (by decide) rfl ?_
      refine g_aloadN D0 64 d_jdk_43m36_63 rfl rfl rfl ?_
      refine g_iloadN D0 65 d_jdk_43m36_64 rfl rfl ?_
      refine g_iloadN D0 66 d_jdk_43m36_65 rfl rfl ?_
      refine g_iloadN D0 67 d_jdk_43m36_66 rfl rfl ?_
      refine g_isub D0 68 d_jdk_43m36_67 rfl ?_
      rw [show ((2 : Int32) - (0 : Int32)) = (2 : Int32) from by decide]
      refine g_callS D0 71 (hw _ w_145) (hw _ w_118) (hw _ w_11) (hw _ w_119) (by decide) ((cNS l Z a0 hw [] t kt [c0, c1, c2, c3] 0 2 h0 n0 Z0 V_t hb (by decide) (Nat.le_of_ble_eq_true rfl) (Nat.le_of_ble_eq_true rfl) (fun p q => by first | (exact absurd p (by decide)) | (exact absurd q (by simp)))).back D0 0 (hw _ w_119) (hw _ w_11) (by decide) (by decide)) rfl [(.ref t), (.int (0 : Int32)), (.int (2 : Int32))] rfl (lenOf pd_10 rfl) rfl (Nat.le_of_eq rfl) (by decide) (by decide) (fun _ _ _ q => by obtain ⟨_, _, _, _, E, _⟩ := q; exact D0.iv.ext E) d_jdk_43m36_68 rfl ?_
      intro v152 T152 h152 L152 q152 D152
      obtain ⟨y152, rfl, g152, N152, E152, X152⟩ := q152
      have NF152 := Fr.app (Fr.nil n0) N152
      show Go p e below _ (T152.setTop (mkF m 71 #[.val (.ref t), .val (.int (2 : Int32)), .val (.int (0 : Int32))] [(.ref y152)]))
      refine g_goto D152 75 d_jdk_43m36_71 (by decide) (by decide) ?_
      exact r_Aw D152 hEW hret rfl rfl hlk d_jdk_43m36_75 ⟨.ref y152, rfl, NF152, Keep.toExt ((Keep.refl _ []).ext E152), Or.inr ⟨y152, rfl, by rw [(own_l5 z0 z1 z2 z3)]; exact X152⟩⟩ (by decide) (by decide)
    refine g_icmpN D0 47 d_jdk_43m36_44 (flt z1).2.2.1 rfl ?_
    refine g_iinc D0 50 (-1 : Int32) #[.val (.ref t), .val (.int ((2 : Int32) + (-1 : Int32))), .val (.int (0 : Int32))] d_jdk_43m36_47 rfl rfl rfl rfl ?_
    rw [show ((2 : Int32) + (-1 : Int32)) = (1 : Int32) from by decide]
    refine g_goto D0 28 d_jdk_43m36_50 (by decide) (by decide) ?_
    refine g_iloadN D0 29 d_jdk_43m36_28 rfl rfl ?_
    refine g_iloadN D0 30 d_jdk_43m36_29 rfl rfl ?_
    refine g_icmpN D0 33 d_jdk_43m36_30 (by decide) rfl ?_
    refine g_aloadN D0 34 d_jdk_43m36_33 rfl rfl rfl ?_
    refine g_iloadN D0 35 d_jdk_43m36_34 rfl rfl ?_
    refine g_iconst D0 36 (1 : Int32) d_jdk_43m36_35 rfl rfl ?_
    refine g_isub D0 37 d_jdk_43m36_36 rfl ?_
    rw [show ((1 : Int32) - (1 : Int32)) = (0 : Int32) from by decide]
    refine g_baload D0 38 V_t (v := (.int (StrChars.lo8 c0))) ⟨by decide, by decide⟩ rfl d_jdk_43m36_37 rfl ?_
    refine g_sipush D0 41 (255 : Int32) d_jdk_43m36_38 rfl rfl ?_
    refine g_iand D0 42 d_jdk_43m36_41 rfl ?_
    rw [own_msk H0]
    refine g_bipush D0 44 (32 : Int32) d_jdk_43m36_42 rfl rfl ?_
    refine g_icmpY D0 53 d_jdk_43m36_44 (tlt z0).2.2.1 (by decide) (by decide) ?_
    refine g_iloadN D0 54 d_jdk_43m36_53 rfl rfl ?_
    refine g_ifN D0 57 d_jdk_43m36_54 (by decide) rfl ?_
    refine g_iloadN D0 58 d_jdk_43m36_57 rfl rfl ?_
    refine g_aloadN D0 59 d_jdk_43m36_58 rfl rfl rfl ?_
    refine g_alen D0 60 V_t d_jdk_43m36_59 rfl ?_
    refine g_icmpN D0 63 d_jdk_43m36_60 (by decide) rfl ?_
    refine g_aloadN D0 64 d_jdk_43m36_63 rfl rfl rfl ?_
    refine g_iloadN D0 65 d_jdk_43m36_64 rfl rfl ?_
    refine g_iloadN D0 66 d_jdk_43m36_65 rfl rfl ?_
    refine g_iloadN D0 67 d_jdk_43m36_66 rfl rfl ?_
    refine g_isub D0 68 d_jdk_43m36_67 rfl ?_
    rw [show ((1 : Int32) - (0 : Int32)) = (1 : Int32) from by decide]
    refine g_callS D0 71 (hw _ w_145) (hw _ w_118) (hw _ w_11) (hw _ w_119) (by decide) ((cNS l Z a0 hw [] t kt [c0, c1, c2, c3] 0 1 h0 n0 Z0 V_t hb (by decide) (Nat.le_of_ble_eq_true rfl) (Nat.le_of_ble_eq_true rfl) (fun p q => by first | (exact absurd p (by decide)) | (exact absurd q (by simp)))).back D0 0 (hw _ w_119) (hw _ w_11) (by decide) (by decide)) rfl [(.ref t), (.int (0 : Int32)), (.int (1 : Int32))] rfl (lenOf pd_10 rfl) rfl (Nat.le_of_eq rfl) (by decide) (by decide) (fun _ _ _ q => by obtain ⟨_, _, _, _, E, _⟩ := q; exact D0.iv.ext E) d_jdk_43m36_68 rfl ?_
    intro v153 T153 h153 L153 q153 D153
    obtain ⟨y153, rfl, g153, N153, E153, X153⟩ := q153
    have NF153 := Fr.app (Fr.nil n0) N153
    show Go p e below _ (T153.setTop (mkF m 71 #[.val (.ref t), .val (.int (1 : Int32)), .val (.int (0 : Int32))] [(.ref y153)]))
    refine g_goto D153 75 d_jdk_43m36_71 (by decide) (by decide) ?_
    exact r_Aw D153 hEW hret rfl rfl hlk d_jdk_43m36_75 ⟨.ref y153, rfl, NF153, Keep.toExt ((Keep.refl _ []).ext E153), Or.inr ⟨y153, rfl, by rw [(own_l6 z0 z1 z2 z3)]; exact X153⟩⟩ (by decide) (by decide)
  refine g_icmpN D0 22 d_jdk_43m36_19 (flt z0).2.2.1 rfl ?_
  refine g_iinc D0 25 (1 : Int32) #[.val (.ref t), .val (.int (4 : Int32)), .val (.int ((0 : Int32) + (1 : Int32)))] d_jdk_43m36_22 rfl rfl rfl rfl ?_
  rw [show ((0 : Int32) + (1 : Int32)) = (1 : Int32) from by decide]
  refine g_goto D0 5 d_jdk_43m36_25 (by decide) (by decide) ?_
  refine g_iloadN D0 6 d_jdk_43m36_5 rfl rfl ?_
  refine g_iloadN D0 7 d_jdk_43m36_6 rfl rfl ?_
  refine g_icmpN D0 10 d_jdk_43m36_7 (by decide) rfl ?_
  refine g_aloadN D0 11 d_jdk_43m36_10 rfl rfl rfl ?_
  refine g_iloadN D0 12 d_jdk_43m36_11 rfl rfl ?_
  refine g_baload D0 13 V_t (v := (.int (StrChars.lo8 c1))) ⟨by decide, by decide⟩ rfl d_jdk_43m36_12 rfl ?_
  refine g_sipush D0 16 (255 : Int32) d_jdk_43m36_13 rfl rfl ?_
  refine g_iand D0 17 d_jdk_43m36_16 rfl ?_
  rw [own_msk H1]
  refine g_bipush D0 19 (32 : Int32) d_jdk_43m36_17 rfl rfl ?_
  by_cases z1 : (32 : Int32) < c1
  · refine g_icmpY D0 28 d_jdk_43m36_19 (tlt z1).2.2.1 (by decide) (by decide) ?_
    refine g_iloadN D0 29 d_jdk_43m36_28 rfl rfl ?_
    refine g_iloadN D0 30 d_jdk_43m36_29 rfl rfl ?_
    refine g_icmpN D0 33 d_jdk_43m36_30 (by decide) rfl ?_
    refine g_aloadN D0 34 d_jdk_43m36_33 rfl rfl rfl ?_
    refine g_iloadN D0 35 d_jdk_43m36_34 rfl rfl ?_
    refine g_iconst D0 36 (1 : Int32) d_jdk_43m36_35 rfl rfl ?_
    refine g_isub D0 37 d_jdk_43m36_36 rfl ?_
    rw [show ((4 : Int32) - (1 : Int32)) = (3 : Int32) from by decide]
    refine g_baload D0 38 V_t (v := (.int (StrChars.lo8 c3))) ⟨by decide, by decide⟩ rfl d_jdk_43m36_37 rfl ?_
    refine g_sipush D0 41 (255 : Int32) d_jdk_43m36_38 rfl rfl ?_
    refine g_iand D0 42 d_jdk_43m36_41 rfl ?_
    rw [own_msk H3]
    refine g_bipush D0 44 (32 : Int32) d_jdk_43m36_42 rfl rfl ?_
    by_cases z3 : (32 : Int32) < c3
    · refine g_icmpY D0 53 d_jdk_43m36_44 (tlt z3).2.2.1 (by decide) (by decide) ?_
      refine g_iloadN D0 54 d_jdk_43m36_53 rfl rfl ?_
      refine g_ifY D0 63 d_jdk_43m36_54 (by decide) (by decide) (by decide) ?_
      refine g_aloadN D0 64 d_jdk_43m36_63 rfl rfl rfl ?_
      refine g_iloadN D0 65 d_jdk_43m36_64 rfl rfl ?_
      refine g_iloadN D0 66 d_jdk_43m36_65 rfl rfl ?_
      refine g_iloadN D0 67 d_jdk_43m36_66 rfl rfl ?_
      refine g_isub D0 68 d_jdk_43m36_67 rfl ?_
      rw [show ((4 : Int32) - (1 : Int32)) = (3 : Int32) from by decide]
      refine g_callS D0 71 (hw _ w_145) (hw _ w_118) (hw _ w_11) (hw _ w_119) (by decide) ((cNS l Z a0 hw [] t kt [c0, c1, c2, c3] 1 4 h0 n0 Z0 V_t hb (by decide) (Nat.le_of_ble_eq_true rfl) (Nat.le_of_ble_eq_true rfl) (fun p q => by first | (exact absurd p (by decide)) | (exact absurd q (by simp)))).back D0 0 (hw _ w_119) (hw _ w_11) (by decide) (by decide)) rfl [(.ref t), (.int (1 : Int32)), (.int (3 : Int32))] rfl (lenOf pd_10 rfl) rfl (Nat.le_of_eq rfl) (by decide) (by decide) (fun _ _ _ q => by obtain ⟨_, _, _, _, E, _⟩ := q; exact D0.iv.ext E) d_jdk_43m36_68 rfl ?_
      intro v154 T154 h154 L154 q154 D154
      obtain ⟨y154, rfl, g154, N154, E154, X154⟩ := q154
      have NF154 := Fr.app (Fr.nil n0) N154
      show Go p e below _ (T154.setTop (mkF m 71 #[.val (.ref t), .val (.int (4 : Int32)), .val (.int (1 : Int32))] [(.ref y154)]))
      refine g_goto D154 75 d_jdk_43m36_71 (by decide) (by decide) ?_
      exact r_Aw D154 hEW hret rfl rfl hlk d_jdk_43m36_75 ⟨.ref y154, rfl, NF154, Keep.toExt ((Keep.refl _ []).ext E154), Or.inr ⟨y154, rfl, by rw [(own_l7 z0 z1 z3)]; exact X154⟩⟩ (by decide) (by decide)
    refine g_icmpN D0 47 d_jdk_43m36_44 (flt z3).2.2.1 rfl ?_
    refine g_iinc D0 50 (-1 : Int32) #[.val (.ref t), .val (.int ((4 : Int32) + (-1 : Int32))), .val (.int (1 : Int32))] d_jdk_43m36_47 rfl rfl rfl rfl ?_
    rw [show ((4 : Int32) + (-1 : Int32)) = (3 : Int32) from by decide]
    refine g_goto D0 28 d_jdk_43m36_50 (by decide) (by decide) ?_
    refine g_iloadN D0 29 d_jdk_43m36_28 rfl rfl ?_
    refine g_iloadN D0 30 d_jdk_43m36_29 rfl rfl ?_
    refine g_icmpN D0 33 d_jdk_43m36_30 (by decide) rfl ?_
    refine g_aloadN D0 34 d_jdk_43m36_33 rfl rfl rfl ?_
    refine g_iloadN D0 35 d_jdk_43m36_34 rfl rfl ?_
    refine g_iconst D0 36 (1 : Int32) d_jdk_43m36_35 rfl rfl ?_
    refine g_isub D0 37 d_jdk_43m36_36 rfl ?_
    rw [show ((3 : Int32) - (1 : Int32)) = (2 : Int32) from by decide]
    refine g_baload D0 38 V_t (v := (.int (StrChars.lo8 c2))) ⟨by decide, by decide⟩ rfl d_jdk_43m36_37 rfl ?_
    refine g_sipush D0 41 (255 : Int32) d_jdk_43m36_38 rfl rfl ?_
    refine g_iand D0 42 d_jdk_43m36_41 rfl ?_
    rw [own_msk H2]
    refine g_bipush D0 44 (32 : Int32) d_jdk_43m36_42 rfl rfl ?_
    by_cases z2 : (32 : Int32) < c2
    · refine g_icmpY D0 53 d_jdk_43m36_44 (tlt z2).2.2.1 (by decide) (by decide) ?_
      refine g_iloadN D0 54 d_jdk_43m36_53 rfl rfl ?_
      refine g_ifY D0 63 d_jdk_43m36_54 (by decide) (by decide) (by decide) ?_
      refine g_aloadN D0 64 d_jdk_43m36_63 rfl rfl rfl ?_
      refine g_iloadN D0 65 d_jdk_43m36_64 rfl rfl ?_
      refine g_iloadN D0 66 d_jdk_43m36_65 rfl rfl ?_
      refine g_iloadN D0 67 d_jdk_43m36_66 rfl rfl ?_
      refine g_isub D0 68 d_jdk_43m36_67 rfl ?_
      rw [show ((3 : Int32) - (1 : Int32)) = (2 : Int32) from by decide]
      refine g_callS D0 71 (hw _ w_145) (hw _ w_118) (hw _ w_11) (hw _ w_119) (by decide) ((cNS l Z a0 hw [] t kt [c0, c1, c2, c3] 1 3 h0 n0 Z0 V_t hb (by decide) (Nat.le_of_ble_eq_true rfl) (Nat.le_of_ble_eq_true rfl) (fun p q => by first | (exact absurd p (by decide)) | (exact absurd q (by simp)))).back D0 0 (hw _ w_119) (hw _ w_11) (by decide) (by decide)) rfl [(.ref t), (.int (1 : Int32)), (.int (2 : Int32))] rfl (lenOf pd_10 rfl) rfl (Nat.le_of_eq rfl) (by decide) (by decide) (fun _ _ _ q => by obtain ⟨_, _, _, _, E, _⟩ := q; exact D0.iv.ext E) d_jdk_43m36_68 rfl ?_
      intro v155 T155 h155 L155 q155 D155
      obtain ⟨y155, rfl, g155, N155, E155, X155⟩ := q155
      have NF155 := Fr.app (Fr.nil n0) N155
      show Go p e below _ (T155.setTop (mkF m 71 #[.val (.ref t), .val (.int (3 : Int32)), .val (.int (1 : Int32))] [(.ref y155)]))
      refine g_goto D155 75 d_jdk_43m36_71 (by decide) (by decide) ?_
      exact r_Aw D155 hEW hret rfl rfl hlk d_jdk_43m36_75 ⟨.ref y155, rfl, NF155, Keep.toExt ((Keep.refl _ []).ext E155), Or.inr ⟨y155, rfl, by rw [(own_l8 z0 z1 z2 z3)]; exact X155⟩⟩ (by decide) (by decide)
    refine g_icmpN D0 47 d_jdk_43m36_44 (flt z2).2.2.1 rfl ?_
    refine g_iinc D0 50 (-1 : Int32) #[.val (.ref t), .val (.int ((3 : Int32) + (-1 : Int32))), .val (.int (1 : Int32))] d_jdk_43m36_47 rfl rfl rfl rfl ?_
    rw [show ((3 : Int32) + (-1 : Int32)) = (2 : Int32) from by decide]
    refine g_goto D0 28 d_jdk_43m36_50 (by decide) (by decide) ?_
    refine g_iloadN D0 29 d_jdk_43m36_28 rfl rfl ?_
    refine g_iloadN D0 30 d_jdk_43m36_29 rfl rfl ?_
    refine g_icmpN D0 33 d_jdk_43m36_30 (by decide) rfl ?_
    refine g_aloadN D0 34 d_jdk_43m36_33 rfl rfl rfl ?_
    refine g_iloadN D0 35 d_jdk_43m36_34 rfl rfl ?_
    refine g_iconst D0 36 (1 : Int32) d_jdk_43m36_35 rfl rfl ?_
    refine g_isub D0 37 d_jdk_43m36_36 rfl ?_
    rw [show ((2 : Int32) - (1 : Int32)) = (1 : Int32) from by decide]
    refine g_baload D0 38 V_t (v := (.int (StrChars.lo8 c1))) ⟨by decide, by decide⟩ rfl d_jdk_43m36_37 rfl ?_
    refine g_sipush D0 41 (255 : Int32) d_jdk_43m36_38 rfl rfl ?_
    refine g_iand D0 42 d_jdk_43m36_41 rfl ?_
    rw [own_msk H1]
    refine g_bipush D0 44 (32 : Int32) d_jdk_43m36_42 rfl rfl ?_
    refine g_icmpY D0 53 d_jdk_43m36_44 (tlt z1).2.2.1 (by decide) (by decide) ?_
    refine g_iloadN D0 54 d_jdk_43m36_53 rfl rfl ?_
    refine g_ifY D0 63 d_jdk_43m36_54 (by decide) (by decide) (by decide) ?_
    refine g_aloadN D0 64 d_jdk_43m36_63 rfl rfl rfl ?_
    refine g_iloadN D0 65 d_jdk_43m36_64 rfl rfl ?_
    refine g_iloadN D0 66 d_jdk_43m36_65 rfl rfl ?_
    refine g_iloadN D0 67 d_jdk_43m36_66 rfl rfl ?_
    refine g_isub D0 68 d_jdk_43m36_67 rfl ?_
    rw [show ((2 : Int32) - (1 : Int32)) = (1 : Int32) from by decide]
    refine g_callS D0 71 (hw _ w_145) (hw _ w_118) (hw _ w_11) (hw _ w_119) (by decide) ((cNS l Z a0 hw [] t kt [c0, c1, c2, c3] 1 2 h0 n0 Z0 V_t hb (by decide) (Nat.le_of_ble_eq_true rfl) (Nat.le_of_ble_eq_true rfl) (fun p q => by first | (exact absurd p (by decide)) | (exact absurd q (by simp)))).back D0 0 (hw _ w_119) (hw _ w_11) (by decide) (by decide)) rfl [(.ref t), (.int (1 : Int32)), (.int (1 : Int32))] rfl (lenOf pd_10 rfl) rfl (Nat.le_of_eq rfl) (by decide) (by decide) (fun _ _ _ q => by obtain ⟨_, _, _, _, E, _⟩ := q; exact D0.iv.ext E) d_jdk_43m36_68 rfl ?_
    intro v156 T156 h156 L156 q156 D156
    obtain ⟨y156, rfl, g156, N156, E156, X156⟩ := q156
    have NF156 := Fr.app (Fr.nil n0) N156
    show Go p e below _ (T156.setTop (mkF m 71 #[.val (.ref t), .val (.int (2 : Int32)), .val (.int (1 : Int32))] [(.ref y156)]))
    refine g_goto D156 75 d_jdk_43m36_71 (by decide) (by decide) ?_
    exact r_Aw D156 hEW hret rfl rfl hlk d_jdk_43m36_75 ⟨.ref y156, rfl, NF156, Keep.toExt ((Keep.refl _ []).ext E156), Or.inr ⟨y156, rfl, by rw [(own_l9 z0 z1 z2 z3)]; exact X156⟩⟩ (by decide) (by decide)
  refine g_icmpN D0 22 d_jdk_43m36_19 (flt z1).2.2.1 rfl ?_
  refine g_iinc D0 25 (1 : Int32) #[.val (.ref t), .val (.int (4 : Int32)), .val (.int ((1 : Int32) + (1 : Int32)))] d_jdk_43m36_22 rfl rfl rfl rfl ?_
  rw [show ((1 : Int32) + (1 : Int32)) = (2 : Int32) from by decide]
  refine g_goto D0 5 d_jdk_43m36_25 (by decide) (by decide) ?_
  refine g_iloadN D0 6 d_jdk_43m36_5 rfl rfl ?_
  refine g_iloadN D0 7 d_jdk_43m36_6 rfl rfl ?_
  refine g_icmpN D0 10 d_jdk_43m36_7 (by decide) rfl ?_
  refine g_aloadN D0 11 d_jdk_43m36_10 rfl rfl rfl ?_
  refine g_iloadN D0 12 d_jdk_43m36_11 rfl rfl ?_
  refine g_baload D0 13 V_t (v := (.int (StrChars.lo8 c2))) ⟨by decide, by decide⟩ rfl d_jdk_43m36_12 rfl ?_
  refine g_sipush D0 16 (255 : Int32) d_jdk_43m36_13 rfl rfl ?_
  refine g_iand D0 17 d_jdk_43m36_16 rfl ?_
  rw [own_msk H2]
  refine g_bipush D0 19 (32 : Int32) d_jdk_43m36_17 rfl rfl ?_
  by_cases z2 : (32 : Int32) < c2
  · refine g_icmpY D0 28 d_jdk_43m36_19 (tlt z2).2.2.1 (by decide) (by decide) ?_
    refine g_iloadN D0 29 d_jdk_43m36_28 rfl rfl ?_
    refine g_iloadN D0 30 d_jdk_43m36_29 rfl rfl ?_
    refine g_icmpN D0 33 d_jdk_43m36_30 (by decide) rfl ?_
    refine g_aloadN D0 34 d_jdk_43m36_33 rfl rfl rfl ?_
    refine g_iloadN D0 35 d_jdk_43m36_34 rfl rfl ?_
    refine g_iconst D0 36 (1 : Int32) d_jdk_43m36_35 rfl rfl ?_
    refine g_isub D0 37 d_jdk_43m36_36 rfl ?_
    rw [show ((4 : Int32) - (1 : Int32)) = (3 : Int32) from by decide]
    refine g_baload D0 38 V_t (v := (.int (StrChars.lo8 c3))) ⟨by decide, by decide⟩ rfl d_jdk_43m36_37 rfl ?_
    refine g_sipush D0 41 (255 : Int32) d_jdk_43m36_38 rfl rfl ?_
    refine g_iand D0 42 d_jdk_43m36_41 rfl ?_
    rw [own_msk H3]
    refine g_bipush D0 44 (32 : Int32) d_jdk_43m36_42 rfl rfl ?_
    by_cases z3 : (32 : Int32) < c3
    · refine g_icmpY D0 53 d_jdk_43m36_44 (tlt z3).2.2.1 (by decide) (by decide) ?_
      refine g_iloadN D0 54 d_jdk_43m36_53 rfl rfl ?_
      refine g_ifY D0 63 d_jdk_43m36_54 (by decide) (by decide) (by decide) ?_
      refine g_aloadN D0 64 d_jdk_43m36_63 rfl rfl rfl ?_
      refine g_iloadN D0 65 d_jdk_43m36_64 rfl rfl ?_
      refine g_iloadN D0 66 d_jdk_43m36_65 rfl rfl ?_
      refine g_iloadN D0 67 d_jdk_43m36_66 rfl rfl ?_
      refine g_isub D0 68 d_jdk_43m36_67 rfl ?_
      rw [show ((4 : Int32) - (2 : Int32)) = (2 : Int32) from by decide]
      refine g_callS D0 71 (hw _ w_145) (hw _ w_118) (hw _ w_11) (hw _ w_119) (by decide) ((cNS l Z a0 hw [] t kt [c0, c1, c2, c3] 2 4 h0 n0 Z0 V_t hb (by decide) (Nat.le_of_ble_eq_true rfl) (Nat.le_of_ble_eq_true rfl) (fun p q => by first | (exact absurd p (by decide)) | (exact absurd q (by simp)))).back D0 0 (hw _ w_119) (hw _ w_11) (by decide) (by decide)) rfl [(.ref t), (.int (2 : Int32)), (.int (2 : Int32))] rfl (lenOf pd_10 rfl) rfl (Nat.le_of_eq rfl) (by decide) (by decide) (fun _ _ _ q => by obtain ⟨_, _, _, _, E, _⟩ := q; exact D0.iv.ext E) d_jdk_43m36_68 rfl ?_
      intro v157 T157 h157 L157 q157 D157
      obtain ⟨y157, rfl, g157, N157, E157, X157⟩ := q157
      have NF157 := Fr.app (Fr.nil n0) N157
      show Go p e below _ (T157.setTop (mkF m 71 #[.val (.ref t), .val (.int (4 : Int32)), .val (.int (2 : Int32))] [(.ref y157)]))
      refine g_goto D157 75 d_jdk_43m36_71 (by decide) (by decide) ?_
      exact r_Aw D157 hEW hret rfl rfl hlk d_jdk_43m36_75 ⟨.ref y157, rfl, NF157, Keep.toExt ((Keep.refl _ []).ext E157), Or.inr ⟨y157, rfl, by rw [(own_l10 z0 z1 z2 z3)]; exact X157⟩⟩ (by decide) (by decide)
    refine g_icmpN D0 47 d_jdk_43m36_44 (flt z3).2.2.1 rfl ?_
    refine g_iinc D0 50 (-1 : Int32) #[.val (.ref t), .val (.int ((4 : Int32) + (-1 : Int32))), .val (.int (2 : Int32))] d_jdk_43m36_47 rfl rfl rfl rfl ?_
    rw [show ((4 : Int32) + (-1 : Int32)) = (3 : Int32) from by decide]
    refine g_goto D0 28 d_jdk_43m36_50 (by decide) (by decide) ?_
    refine g_iloadN D0 29 d_jdk_43m36_28 rfl rfl ?_
    refine g_iloadN D0 30 d_jdk_43m36_29 rfl rfl ?_
    refine g_icmpN D0 33 d_jdk_43m36_30 (by decide) rfl ?_
    refine g_aloadN D0 34 d_jdk_43m36_33 rfl rfl rfl ?_
    refine g_iloadN D0 35 d_jdk_43m36_34 rfl rfl ?_
    refine g_iconst D0 36 (1 : Int32) d_jdk_43m36_35 rfl rfl ?_
    refine g_isub D0 37 d_jdk_43m36_36 rfl ?_
    rw [show ((3 : Int32) - (1 : Int32)) = (2 : Int32) from by decide]
    refine g_baload D0 38 V_t (v := (.int (StrChars.lo8 c2))) ⟨by decide, by decide⟩ rfl d_jdk_43m36_37 rfl ?_
    refine g_sipush D0 41 (255 : Int32) d_jdk_43m36_38 rfl rfl ?_
    refine g_iand D0 42 d_jdk_43m36_41 rfl ?_
    rw [own_msk H2]
    refine g_bipush D0 44 (32 : Int32) d_jdk_43m36_42 rfl rfl ?_
    refine g_icmpY D0 53 d_jdk_43m36_44 (tlt z2).2.2.1 (by decide) (by decide) ?_
    refine g_iloadN D0 54 d_jdk_43m36_53 rfl rfl ?_
    refine g_ifY D0 63 d_jdk_43m36_54 (by decide) (by decide) (by decide) ?_
    refine g_aloadN D0 64 d_jdk_43m36_63 rfl rfl rfl ?_
    refine g_iloadN D0 65 d_jdk_43m36_64 rfl rfl ?_
    refine g_iloadN D0 66 d_jdk_43m36_65 rfl rfl ?_
    refine g_iloadN D0 67 d_jdk_43m36_66 rfl rfl ?_
    refine g_isub D0 68 d_jdk_43m36_67 rfl ?_
    rw [show ((3 : Int32) - (2 : Int32)) = (1 : Int32) from by decide]
    refine g_callS D0 71 (hw _ w_145) (hw _ w_118) (hw _ w_11) (hw _ w_119) (by decide) ((cNS l Z a0 hw [] t kt [c0, c1, c2, c3] 2 3 h0 n0 Z0 V_t hb (by decide) (Nat.le_of_ble_eq_true rfl) (Nat.le_of_ble_eq_true rfl) (fun p q => by first | (exact absurd p (by decide)) | (exact absurd q (by simp)))).back D0 0 (hw _ w_119) (hw _ w_11) (by decide) (by decide)) rfl [(.ref t), (.int (2 : Int32)), (.int (1 : Int32))] rfl (lenOf pd_10 rfl) rfl (Nat.le_of_eq rfl) (by decide) (by decide) (fun _ _ _ q => by obtain ⟨_, _, _, _, E, _⟩ := q; exact D0.iv.ext E) d_jdk_43m36_68 rfl ?_
    intro v158 T158 h158 L158 q158 D158
    obtain ⟨y158, rfl, g158, N158, E158, X158⟩ := q158
    have NF158 := Fr.app (Fr.nil n0) N158
    show Go p e below _ (T158.setTop (mkF m 71 #[.val (.ref t), .val (.int (3 : Int32)), .val (.int (2 : Int32))] [(.ref y158)]))
    refine g_goto D158 75 d_jdk_43m36_71 (by decide) (by decide) ?_
    exact r_Aw D158 hEW hret rfl rfl hlk d_jdk_43m36_75 ⟨.ref y158, rfl, NF158, Keep.toExt ((Keep.refl _ []).ext E158), Or.inr ⟨y158, rfl, by rw [(own_l11 z0 z1 z2 z3)]; exact X158⟩⟩ (by decide) (by decide)
  refine g_icmpN D0 22 d_jdk_43m36_19 (flt z2).2.2.1 rfl ?_
  refine g_iinc D0 25 (1 : Int32) #[.val (.ref t), .val (.int (4 : Int32)), .val (.int ((2 : Int32) + (1 : Int32)))] d_jdk_43m36_22 rfl rfl rfl rfl ?_
  rw [show ((2 : Int32) + (1 : Int32)) = (3 : Int32) from by decide]
  refine g_goto D0 5 d_jdk_43m36_25 (by decide) (by decide) ?_
  refine g_iloadN D0 6 d_jdk_43m36_5 rfl rfl ?_
  refine g_iloadN D0 7 d_jdk_43m36_6 rfl rfl ?_
  refine g_icmpN D0 10 d_jdk_43m36_7 (by decide) rfl ?_
  refine g_aloadN D0 11 d_jdk_43m36_10 rfl rfl rfl ?_
  refine g_iloadN D0 12 d_jdk_43m36_11 rfl rfl ?_
  refine g_baload D0 13 V_t (v := (.int (StrChars.lo8 c3))) ⟨by decide, by decide⟩ rfl d_jdk_43m36_12 rfl ?_
  refine g_sipush D0 16 (255 : Int32) d_jdk_43m36_13 rfl rfl ?_
  refine g_iand D0 17 d_jdk_43m36_16 rfl ?_
  rw [own_msk H3]
  refine g_bipush D0 19 (32 : Int32) d_jdk_43m36_17 rfl rfl ?_
  by_cases z3 : (32 : Int32) < c3
  · refine g_icmpY D0 28 d_jdk_43m36_19 (tlt z3).2.2.1 (by decide) (by decide) ?_
    refine g_iloadN D0 29 d_jdk_43m36_28 rfl rfl ?_
    refine g_iloadN D0 30 d_jdk_43m36_29 rfl rfl ?_
    refine g_icmpN D0 33 d_jdk_43m36_30 (by decide) rfl ?_
    refine g_aloadN D0 34 d_jdk_43m36_33 rfl rfl rfl ?_
    refine g_iloadN D0 35 d_jdk_43m36_34 rfl rfl ?_
    refine g_iconst D0 36 (1 : Int32) d_jdk_43m36_35 rfl rfl ?_
    refine g_isub D0 37 d_jdk_43m36_36 rfl ?_
    rw [show ((4 : Int32) - (1 : Int32)) = (3 : Int32) from by decide]
    refine g_baload D0 38 V_t (v := (.int (StrChars.lo8 c3))) ⟨by decide, by decide⟩ rfl d_jdk_43m36_37 rfl ?_
    refine g_sipush D0 41 (255 : Int32) d_jdk_43m36_38 rfl rfl ?_
    refine g_iand D0 42 d_jdk_43m36_41 rfl ?_
    rw [own_msk H3]
    refine g_bipush D0 44 (32 : Int32) d_jdk_43m36_42 rfl rfl ?_
    refine g_icmpY D0 53 d_jdk_43m36_44 (tlt z3).2.2.1 (by decide) (by decide) ?_
    refine g_iloadN D0 54 d_jdk_43m36_53 rfl rfl ?_
    refine g_ifY D0 63 d_jdk_43m36_54 (by decide) (by decide) (by decide) ?_
    refine g_aloadN D0 64 d_jdk_43m36_63 rfl rfl rfl ?_
    refine g_iloadN D0 65 d_jdk_43m36_64 rfl rfl ?_
    refine g_iloadN D0 66 d_jdk_43m36_65 rfl rfl ?_
    refine g_iloadN D0 67 d_jdk_43m36_66 rfl rfl ?_
    refine g_isub D0 68 d_jdk_43m36_67 rfl ?_
    rw [show ((4 : Int32) - (3 : Int32)) = (1 : Int32) from by decide]
    refine g_callS D0 71 (hw _ w_145) (hw _ w_118) (hw _ w_11) (hw _ w_119) (by decide) ((cNS l Z a0 hw [] t kt [c0, c1, c2, c3] 3 4 h0 n0 Z0 V_t hb (by decide) (Nat.le_of_ble_eq_true rfl) (Nat.le_of_ble_eq_true rfl) (fun p q => by first | (exact absurd p (by decide)) | (exact absurd q (by simp)))).back D0 0 (hw _ w_119) (hw _ w_11) (by decide) (by decide)) rfl [(.ref t), (.int (3 : Int32)), (.int (1 : Int32))] rfl (lenOf pd_10 rfl) rfl (Nat.le_of_eq rfl) (by decide) (by decide) (fun _ _ _ q => by obtain ⟨_, _, _, _, E, _⟩ := q; exact D0.iv.ext E) d_jdk_43m36_68 rfl ?_
    intro v159 T159 h159 L159 q159 D159
    obtain ⟨y159, rfl, g159, N159, E159, X159⟩ := q159
    have NF159 := Fr.app (Fr.nil n0) N159
    show Go p e below _ (T159.setTop (mkF m 71 #[.val (.ref t), .val (.int (4 : Int32)), .val (.int (3 : Int32))] [(.ref y159)]))
    refine g_goto D159 75 d_jdk_43m36_71 (by decide) (by decide) ?_
    exact r_Aw D159 hEW hret rfl rfl hlk d_jdk_43m36_75 ⟨.ref y159, rfl, NF159, Keep.toExt ((Keep.refl _ []).ext E159), Or.inr ⟨y159, rfl, by rw [(own_l12 z0 z1 z2 z3)]; exact X159⟩⟩ (by decide) (by decide)
  refine g_icmpN D0 22 d_jdk_43m36_19 (flt z3).2.2.1 rfl ?_
  refine g_iinc D0 25 (1 : Int32) #[.val (.ref t), .val (.int (4 : Int32)), .val (.int ((3 : Int32) + (1 : Int32)))] d_jdk_43m36_22 rfl rfl rfl rfl ?_
  rw [show ((3 : Int32) + (1 : Int32)) = (4 : Int32) from by decide]
  refine g_goto D0 5 d_jdk_43m36_25 (by decide) (by decide) ?_
  refine g_iloadN D0 6 d_jdk_43m36_5 rfl rfl ?_
  refine g_iloadN D0 7 d_jdk_43m36_6 rfl rfl ?_
  refine g_icmpY D0 28 d_jdk_43m36_7 (by decide) (by decide) (by decide) ?_
  refine g_iloadN D0 29 d_jdk_43m36_28 rfl rfl ?_
  refine g_iloadN D0 30 d_jdk_43m36_29 rfl rfl ?_
  refine g_icmpY D0 53 d_jdk_43m36_30 (by decide) (by decide) (by decide) ?_
  refine g_iloadN D0 54 d_jdk_43m36_53 rfl rfl ?_
  refine g_ifY D0 63 d_jdk_43m36_54 (by decide) (by decide) (by decide) ?_
  refine g_aloadN D0 64 d_jdk_43m36_63 rfl rfl rfl ?_
  refine g_iloadN D0 65 d_jdk_43m36_64 rfl rfl ?_
  refine g_iloadN D0 66 d_jdk_43m36_65 rfl rfl ?_
  refine g_iloadN D0 67 d_jdk_43m36_66 rfl rfl ?_
  refine g_isub D0 68 d_jdk_43m36_67 rfl ?_
  rw [show ((4 : Int32) - (4 : Int32)) = (0 : Int32) from by decide]
  refine g_callSW D0 71 hEW (hw _ w_145) (hw _ w_118) (hw _ w_11) (hw _ w_119) (by decide) (cNS0 l Z a0 hw [] t _ h0 n0 Z0 hEW) rfl [(.ref t), (.int (4 : Int32)), (.int (0 : Int32))] rfl (lenOf pd_10 rfl) rfl 0 (Nat.le_of_eq rfl) (by decide) (by decide) (by decide) (by decide) d_jdk_43m36_68 rfl ?_
  intro v160 s160 T160 h160 L160 q160 SF160 D160
  obtain ⟨y160, rfl, N160, E160, X160⟩ := q160
  have NF160 := Fr.app (Fr.nil n0) N160
  show Go p e below _ (T160.setTop (mkF m 71 #[.val (.ref t), .val (.int (4 : Int32)), .val (.int (4 : Int32))] [(.ref y160)]))
  refine g_goto D160 75 d_jdk_43m36_71 (by decide) (by decide) ?_
  exact r_Aw D160 hEW hret rfl rfl hlk d_jdk_43m36_75 ⟨.ref y160, rfl, NF160, Keep.toExt ((Keep.refl _ []).ext E160), Or.inr ⟨y160, rfl, by rw [(own_l13 z0 z1 z2 z3)]; exact X160⟩⟩ (by decide) (by decide)
def Q_cTr_v4 (Z : State) (x : Addr) (zc : Int32) (c0 c1 c2 c3 : Int32) (h0 : Heap) (n0 : Nat) : Option Value → Heap → List Loc → Prop := (fun v h L => ∃ y, v = some (.ref y) ∧ Fr n0 L ∧ Ext h0 h ∧ LS Z h y (own_trim [c0, c1, c2, c3]))
theorem cTr_v4 (l : Launch) (Z : State) (a0 : Array Value) (hw : tHW Z a0) (ws : List Jvm.Cond) (x : Addr) (zc : Int32) (c0 c1 c2 c3 : Int32) (h0 : Heap) (n0 : Nat) (Z0 : n0 ≤ h0.size) (hEW : EW Z a0 consts_1) (OLD : Old Z n0 h0) (CS : tCS Z zc) (hzc : ¬ zc = 0) (X_x : LS Z h0 x [c0, c1, c2, c3])  :
    ConW l (⟨"java/lang/String", "trim", "()Ljava/lang/String;"⟩ : MethodName) jdk_42_method_113_code 2 (some (.object "java/lang/String")) ws ({ frames := 5, cells := 2, slots := 22, locals := 128 } : Room) Z consts_1 #[(.ref x)] h0 (Q_cTr_v4 Z x zc c0 c1 c2 c3 h0 n0) 2 22 := by
  refine enterW (plainFor_of_name pn_0) ?_
  intro p e s m below meth c s₁ hnm hret hlk D0
  rw [ef_cTr_v4 m x]
  obtain ⟨t, kt, x1, x2, x3, x4, x5, x6⟩ := (id X_x)
  refine g_aloadN D0 1 d_jdk_42m113_0 rfl rfl rfl ?_
  refine g_callVp D0 4 (hw _ w_72) (hw _ w_73) (notFace_of_selects (args := #[]) (mvT D0.wm (hw _ w_75))) (hw _ w_75) (hw _ w_74) (by decide) ((cILs l Z a0 hw [] x zc h0 n0 Z0 OLD CS hzc x2).back D0 0 (hw _ w_76) (hw _ w_6) (by decide) (by decide)) x1 rfl [] rfl (lenOf pd_3 rfl) rfl (Nat.le_of_eq rfl) (by decide) (by decide) d_jdk_42m113_1 rfl ?_
  intro v161 T161 q161 D161
  subst q161
  show Go p e below _ (T161.setTop (mkF m 4 #[.val (.ref x), .unset] [(.int (1 : Int32))]))
  refine g_ifN D161 7 d_jdk_42m113_4 (by decide) rfl ?_
  refine g_aloadN D161 8 d_jdk_42m113_7 rfl rfl rfl ?_
  refine g_getF D161 11 (hw _ w_26) Via.refl x3 d_jdk_42m113_8 rfl ?_
  intro T162 D162
  refine g_callSW D162 14 hEW (hw _ w_142) (hw _ w_143) (hw _ w_11) (hw _ w_144) (by decide) (cTrL_v4 l Z a0 hw [] t kt c0 c1 c2 c3 h0 n0 Z0 hEW x4 x5 ) rfl [(.ref t)] rfl (lenOf pd_11 rfl) rfl 0 (Nat.le_of_eq rfl) (by decide) (by decide) (by decide) (by decide) d_jdk_42m113_11 rfl ?_
  intro v163 s163 T163 h163 L163 q163 SF163 D163
  obtain ⟨w_, rfl, N163, E163, Y163⟩ := q163
  have NF163 := Fr.app (Fr.nil n0) N163
  rcases Y163 with ⟨rfl, e1⟩ | ⟨y, rfl, X1⟩
  · show Go p e below _ (T163.setTop (mkF m 14 #[.val (.ref x), .unset] [.null]))
    refine g_goto D163 24 d_jdk_42m113_14 (by decide) (by decide) ?_
    refine g_astoreN D163 25 #[.val (.ref x), .val .null] d_jdk_42m113_24 rfl rfl rfl ?_
    refine g_aloadN D163 26 d_jdk_42m113_25 rfl rfl rfl ?_
    refine g_nnN D163 29 d_jdk_42m113_26 rfl ?_
    refine g_aloadN D163 30 d_jdk_42m113_29 rfl rfl rfl ?_
    refine g_goto D163 34 d_jdk_42m113_30 (by decide) (by decide) ?_
    exact r_Aw D163 hEW hret rfl rfl hlk d_jdk_42m113_34 ⟨x, rfl, NF163, Keep.toExt ((Keep.refl _ []).ext E163), by rw [e1]; exact X_x.ext E163⟩ (by decide) (by decide)
  · show Go p e below _ (T163.setTop (mkF m 14 #[.val (.ref x), .unset] [(.ref y)]))
    refine g_goto D163 24 d_jdk_42m113_14 (by decide) (by decide) ?_
    refine g_astoreN D163 25 #[.val (.ref x), .val (.ref y)] d_jdk_42m113_24 rfl rfl rfl ?_
    refine g_aloadN D163 26 d_jdk_42m113_25 rfl rfl rfl ?_
    refine g_nnY D163 33 d_jdk_42m113_26 (by decide) (by decide) ?_
    refine g_aloadN D163 34 d_jdk_42m113_33 rfl rfl rfl ?_
    exact r_Aw D163 hEW hret rfl rfl hlk d_jdk_42m113_34 ⟨y, rfl, NF163, Keep.toExt ((Keep.refl _ []).ext E163), X1⟩ (by decide) (by decide)
theorem cCD (l : Launch) (Z : State) (a0 : Array Value) (hw : tHW Z a0) (ws : List Jvm.Cond) (j k : Int32) (h0 : Heap) (n0 : Nat) (Z0 : n0 ≤ h0.size) (hj : own_isl j) (hk : own_isl k) :
    Con l (⟨"java/lang/CharacterDataLatin1", "equalsIgnoreCase", "(BB)Z"⟩ : MethodName) jdk_116_method_22_code 3 (some .boolean) ws ({ frames := 0, cells := 0, slots := 0, locals := 0 } : Room) Z #[(.int j), (.int k)] h0 (fun v h L => v = some (.int (own_ci j k)) ∧ L = [] ∧ h = h0) 0 0 := by
  refine enter (plainFor_of_name pn_4) ?_
  intro p e s m below meth c s₁ hnm hret hlk D0
  rw [ef_cCD m j k]
  rcases hj with rfl | rfl | rfl | rfl <;> rcases hk with rfl | rfl | rfl | rfl
  · show Go p e below _ (s₁.setTop (mkF m 0 #[.val (.int (97 : Int32)), .val (.int (97 : Int32)), .unset] []))
    refine g_iloadN D0 1 d_jdk_116m22_0 rfl rfl ?_
    refine g_iloadN D0 2 d_jdk_116m22_1 rfl rfl ?_
    refine g_icmpN D0 5 d_jdk_116m22_2 (by decide) rfl ?_
    refine g_iconst D0 6 (1 : Int32) d_jdk_116m22_5 rfl rfl ?_
    exact r_N D0 hret (by simp) hlk d_jdk_116m22_6 ⟨(by decide : some (Value.int (nar .boolean (1 : Int32))) = some (.int (own_ci (97 : Int32) (97 : Int32)))), rfl, rfl⟩ (by decide) (by decide)
  · show Go p e below _ (s₁.setTop (mkF m 0 #[.val (.int (97 : Int32)), .val (.int (65 : Int32)), .unset] []))
    refine g_iloadN D0 1 d_jdk_116m22_0 rfl rfl ?_
    refine g_iloadN D0 2 d_jdk_116m22_1 rfl rfl ?_
    refine g_icmpY D0 7 d_jdk_116m22_2 (by decide) (by decide) (by decide) ?_
    refine g_iloadN D0 8 d_jdk_116m22_7 rfl rfl ?_
    refine g_sipush D0 11 (223 : Int32) d_jdk_116m22_8 rfl rfl ?_
    refine g_iand D0 12 d_jdk_116m22_11 rfl ?_
    rw [show ((97 : Int32) &&& (223 : Int32)) = (65 : Int32) from by decide]
    refine g_istoreN D0 13 #[.val (.int (97 : Int32)), .val (.int (65 : Int32)), .val (.int (65 : Int32))] d_jdk_116m22_12 rfl rfl ?_
    refine g_iloadN D0 14 d_jdk_116m22_13 rfl rfl ?_
    refine g_bipush D0 16 (65 : Int32) d_jdk_116m22_14 rfl rfl ?_
    refine g_icmpY D0 21 d_jdk_116m22_16 (by decide) (by decide) (by decide) ?_
    refine g_iloadN D0 22 d_jdk_116m22_21 rfl rfl ?_
    refine g_bipush D0 24 (90 : Int32) d_jdk_116m22_22 rfl rfl ?_
    refine g_icmpY D0 48 d_jdk_116m22_24 (by decide) (by decide) (by decide) ?_
    refine g_iloadN D0 49 d_jdk_116m22_48 rfl rfl ?_
    refine g_iloadN D0 50 d_jdk_116m22_49 rfl rfl ?_
    refine g_sipush D0 53 (223 : Int32) d_jdk_116m22_50 rfl rfl ?_
    refine g_iand D0 54 d_jdk_116m22_53 rfl ?_
    rw [show ((65 : Int32) &&& (223 : Int32)) = (65 : Int32) from by decide]
    refine g_icmpN D0 57 d_jdk_116m22_54 (by decide) rfl ?_
    refine g_iconst D0 58 (1 : Int32) d_jdk_116m22_57 rfl rfl ?_
    refine g_goto D0 62 d_jdk_116m22_58 (by decide) (by decide) ?_
    exact r_N D0 hret (by simp) hlk d_jdk_116m22_62 ⟨(by decide : some (Value.int (nar .boolean (1 : Int32))) = some (.int (own_ci (97 : Int32) (65 : Int32)))), rfl, rfl⟩ (by decide) (by decide)
  · show Go p e below _ (s₁.setTop (mkF m 0 #[.val (.int (97 : Int32)), .val (.int (98 : Int32)), .unset] []))
    refine g_iloadN D0 1 d_jdk_116m22_0 rfl rfl ?_
    refine g_iloadN D0 2 d_jdk_116m22_1 rfl rfl ?_
    refine g_icmpY D0 7 d_jdk_116m22_2 (by decide) (by decide) (by decide) ?_
    refine g_iloadN D0 8 d_jdk_116m22_7 rfl rfl ?_
    refine g_sipush D0 11 (223 : Int32) d_jdk_116m22_8 rfl rfl ?_
    refine g_iand D0 12 d_jdk_116m22_11 rfl ?_
    rw [show ((97 : Int32) &&& (223 : Int32)) = (65 : Int32) from by decide]
    refine g_istoreN D0 13 #[.val (.int (97 : Int32)), .val (.int (98 : Int32)), .val (.int (65 : Int32))] d_jdk_116m22_12 rfl rfl ?_
    refine g_iloadN D0 14 d_jdk_116m22_13 rfl rfl ?_
    refine g_bipush D0 16 (65 : Int32) d_jdk_116m22_14 rfl rfl ?_
    refine g_icmpY D0 21 d_jdk_116m22_16 (by decide) (by decide) (by decide) ?_
    refine g_iloadN D0 22 d_jdk_116m22_21 rfl rfl ?_
    refine g_bipush D0 24 (90 : Int32) d_jdk_116m22_22 rfl rfl ?_
    refine g_icmpY D0 48 d_jdk_116m22_24 (by decide) (by decide) (by decide) ?_
    refine g_iloadN D0 49 d_jdk_116m22_48 rfl rfl ?_
    refine g_iloadN D0 50 d_jdk_116m22_49 rfl rfl ?_
    refine g_sipush D0 53 (223 : Int32) d_jdk_116m22_50 rfl rfl ?_
    refine g_iand D0 54 d_jdk_116m22_53 rfl ?_
    rw [show ((98 : Int32) &&& (223 : Int32)) = (66 : Int32) from by decide]
    refine g_icmpY D0 61 d_jdk_116m22_54 (by decide) (by decide) (by decide) ?_
    refine g_iconst D0 62 (0 : Int32) d_jdk_116m22_61 rfl rfl ?_
    exact r_N D0 hret (by simp) hlk d_jdk_116m22_62 ⟨(by decide : some (Value.int (nar .boolean (0 : Int32))) = some (.int (own_ci (97 : Int32) (98 : Int32)))), rfl, rfl⟩ (by decide) (by decide)
  · show Go p e below _ (s₁.setTop (mkF m 0 #[.val (.int (97 : Int32)), .val (.int (66 : Int32)), .unset] []))
    refine g_iloadN D0 1 d_jdk_116m22_0 rfl rfl ?_
    refine g_iloadN D0 2 d_jdk_116m22_1 rfl rfl ?_
    refine g_icmpY D0 7 d_jdk_116m22_2 (by decide) (by decide) (by decide) ?_
    refine g_iloadN D0 8 d_jdk_116m22_7 rfl rfl ?_
    refine g_sipush D0 11 (223 : Int32) d_jdk_116m22_8 rfl rfl ?_
    refine g_iand D0 12 d_jdk_116m22_11 rfl ?_
    rw [show ((97 : Int32) &&& (223 : Int32)) = (65 : Int32) from by decide]
    refine g_istoreN D0 13 #[.val (.int (97 : Int32)), .val (.int (66 : Int32)), .val (.int (65 : Int32))] d_jdk_116m22_12 rfl rfl ?_
    refine g_iloadN D0 14 d_jdk_116m22_13 rfl rfl ?_
    refine g_bipush D0 16 (65 : Int32) d_jdk_116m22_14 rfl rfl ?_
    refine g_icmpY D0 21 d_jdk_116m22_16 (by decide) (by decide) (by decide) ?_
    refine g_iloadN D0 22 d_jdk_116m22_21 rfl rfl ?_
    refine g_bipush D0 24 (90 : Int32) d_jdk_116m22_22 rfl rfl ?_
    refine g_icmpY D0 48 d_jdk_116m22_24 (by decide) (by decide) (by decide) ?_
    refine g_iloadN D0 49 d_jdk_116m22_48 rfl rfl ?_
    refine g_iloadN D0 50 d_jdk_116m22_49 rfl rfl ?_
    refine g_sipush D0 53 (223 : Int32) d_jdk_116m22_50 rfl rfl ?_
    refine g_iand D0 54 d_jdk_116m22_53 rfl ?_
    rw [show ((66 : Int32) &&& (223 : Int32)) = (66 : Int32) from by decide]
    refine g_icmpY D0 61 d_jdk_116m22_54 (by decide) (by decide) (by decide) ?_
    refine g_iconst D0 62 (0 : Int32) d_jdk_116m22_61 rfl rfl ?_
    exact r_N D0 hret (by simp) hlk d_jdk_116m22_62 ⟨(by decide : some (Value.int (nar .boolean (0 : Int32))) = some (.int (own_ci (97 : Int32) (66 : Int32)))), rfl, rfl⟩ (by decide) (by decide)
  · show Go p e below _ (s₁.setTop (mkF m 0 #[.val (.int (65 : Int32)), .val (.int (97 : Int32)), .unset] []))
    refine g_iloadN D0 1 d_jdk_116m22_0 rfl rfl ?_
    refine g_iloadN D0 2 d_jdk_116m22_1 rfl rfl ?_
    refine g_icmpY D0 7 d_jdk_116m22_2 (by decide) (by decide) (by decide) ?_
    refine g_iloadN D0 8 d_jdk_116m22_7 rfl rfl ?_
    refine g_sipush D0 11 (223 : Int32) d_jdk_116m22_8 rfl rfl ?_
    refine g_iand D0 12 d_jdk_116m22_11 rfl ?_
    rw [show ((65 : Int32) &&& (223 : Int32)) = (65 : Int32) from by decide]
    refine g_istoreN D0 13 #[.val (.int (65 : Int32)), .val (.int (97 : Int32)), .val (.int (65 : Int32))] d_jdk_116m22_12 rfl rfl ?_
    refine g_iloadN D0 14 d_jdk_116m22_13 rfl rfl ?_
    refine g_bipush D0 16 (65 : Int32) d_jdk_116m22_14 rfl rfl ?_
    refine g_icmpY D0 21 d_jdk_116m22_16 (by decide) (by decide) (by decide) ?_
    refine g_iloadN D0 22 d_jdk_116m22_21 rfl rfl ?_
    refine g_bipush D0 24 (90 : Int32) d_jdk_116m22_22 rfl rfl ?_
    refine g_icmpY D0 48 d_jdk_116m22_24 (by decide) (by decide) (by decide) ?_
    refine g_iloadN D0 49 d_jdk_116m22_48 rfl rfl ?_
    refine g_iloadN D0 50 d_jdk_116m22_49 rfl rfl ?_
    refine g_sipush D0 53 (223 : Int32) d_jdk_116m22_50 rfl rfl ?_
    refine g_iand D0 54 d_jdk_116m22_53 rfl ?_
    rw [show ((97 : Int32) &&& (223 : Int32)) = (65 : Int32) from by decide]
    refine g_icmpN D0 57 d_jdk_116m22_54 (by decide) rfl ?_
    refine g_iconst D0 58 (1 : Int32) d_jdk_116m22_57 rfl rfl ?_
    refine g_goto D0 62 d_jdk_116m22_58 (by decide) (by decide) ?_
    exact r_N D0 hret (by simp) hlk d_jdk_116m22_62 ⟨(by decide : some (Value.int (nar .boolean (1 : Int32))) = some (.int (own_ci (65 : Int32) (97 : Int32)))), rfl, rfl⟩ (by decide) (by decide)
  · show Go p e below _ (s₁.setTop (mkF m 0 #[.val (.int (65 : Int32)), .val (.int (65 : Int32)), .unset] []))
    refine g_iloadN D0 1 d_jdk_116m22_0 rfl rfl ?_
    refine g_iloadN D0 2 d_jdk_116m22_1 rfl rfl ?_
    refine g_icmpN D0 5 d_jdk_116m22_2 (by decide) rfl ?_
    refine g_iconst D0 6 (1 : Int32) d_jdk_116m22_5 rfl rfl ?_
    exact r_N D0 hret (by simp) hlk d_jdk_116m22_6 ⟨(by decide : some (Value.int (nar .boolean (1 : Int32))) = some (.int (own_ci (65 : Int32) (65 : Int32)))), rfl, rfl⟩ (by decide) (by decide)
  · show Go p e below _ (s₁.setTop (mkF m 0 #[.val (.int (65 : Int32)), .val (.int (98 : Int32)), .unset] []))
    refine g_iloadN D0 1 d_jdk_116m22_0 rfl rfl ?_
    refine g_iloadN D0 2 d_jdk_116m22_1 rfl rfl ?_
    refine g_icmpY D0 7 d_jdk_116m22_2 (by decide) (by decide) (by decide) ?_
    refine g_iloadN D0 8 d_jdk_116m22_7 rfl rfl ?_
    refine g_sipush D0 11 (223 : Int32) d_jdk_116m22_8 rfl rfl ?_
    refine g_iand D0 12 d_jdk_116m22_11 rfl ?_
    rw [show ((65 : Int32) &&& (223 : Int32)) = (65 : Int32) from by decide]
    refine g_istoreN D0 13 #[.val (.int (65 : Int32)), .val (.int (98 : Int32)), .val (.int (65 : Int32))] d_jdk_116m22_12 rfl rfl ?_
    refine g_iloadN D0 14 d_jdk_116m22_13 rfl rfl ?_
    refine g_bipush D0 16 (65 : Int32) d_jdk_116m22_14 rfl rfl ?_
    refine g_icmpY D0 21 d_jdk_116m22_16 (by decide) (by decide) (by decide) ?_
    refine g_iloadN D0 22 d_jdk_116m22_21 rfl rfl ?_
    refine g_bipush D0 24 (90 : Int32) d_jdk_116m22_22 rfl rfl ?_
    refine g_icmpY D0 48 d_jdk_116m22_24 (by decide) (by decide) (by decide) ?_
    refine g_iloadN D0 49 d_jdk_116m22_48 rfl rfl ?_
    refine g_iloadN D0 50 d_jdk_116m22_49 rfl rfl ?_
    refine g_sipush D0 53 (223 : Int32) d_jdk_116m22_50 rfl rfl ?_
    refine g_iand D0 54 d_jdk_116m22_53 rfl ?_
    rw [show ((98 : Int32) &&& (223 : Int32)) = (66 : Int32) from by decide]
    refine g_icmpY D0 61 d_jdk_116m22_54 (by decide) (by decide) (by decide) ?_
    refine g_iconst D0 62 (0 : Int32) d_jdk_116m22_61 rfl rfl ?_
    exact r_N D0 hret (by simp) hlk d_jdk_116m22_62 ⟨(by decide : some (Value.int (nar .boolean (0 : Int32))) = some (.int (own_ci (65 : Int32) (98 : Int32)))), rfl, rfl⟩ (by decide) (by decide)
  · show Go p e below _ (s₁.setTop (mkF m 0 #[.val (.int (65 : Int32)), .val (.int (66 : Int32)), .unset] []))
    refine g_iloadN D0 1 d_jdk_116m22_0 rfl rfl ?_
    refine g_iloadN D0 2 d_jdk_116m22_1 rfl rfl ?_
    refine g_icmpY D0 7 d_jdk_116m22_2 (by decide) (by decide) (by decide) ?_
    refine g_iloadN D0 8 d_jdk_116m22_7 rfl rfl ?_
    refine g_sipush D0 11 (223 : Int32) d_jdk_116m22_8 rfl rfl ?_
    refine g_iand D0 12 d_jdk_116m22_11 rfl ?_
    rw [show ((65 : Int32) &&& (223 : Int32)) = (65 : Int32) from by decide]
    refine g_istoreN D0 13 #[.val (.int (65 : Int32)), .val (.int (66 : Int32)), .val (.int (65 : Int32))] d_jdk_116m22_12 rfl rfl ?_
    refine g_iloadN D0 14 d_jdk_116m22_13 rfl rfl ?_
    refine g_bipush D0 16 (65 : Int32) d_jdk_116m22_14 rfl rfl ?_
    refine g_icmpY D0 21 d_jdk_116m22_16 (by decide) (by decide) (by decide) ?_
    refine g_iloadN D0 22 d_jdk_116m22_21 rfl rfl ?_
    refine g_bipush D0 24 (90 : Int32) d_jdk_116m22_22 rfl rfl ?_
    refine g_icmpY D0 48 d_jdk_116m22_24 (by decide) (by decide) (by decide) ?_
    refine g_iloadN D0 49 d_jdk_116m22_48 rfl rfl ?_
    refine g_iloadN D0 50 d_jdk_116m22_49 rfl rfl ?_
    refine g_sipush D0 53 (223 : Int32) d_jdk_116m22_50 rfl rfl ?_
    refine g_iand D0 54 d_jdk_116m22_53 rfl ?_
    rw [show ((66 : Int32) &&& (223 : Int32)) = (66 : Int32) from by decide]
    refine g_icmpY D0 61 d_jdk_116m22_54 (by decide) (by decide) (by decide) ?_
    refine g_iconst D0 62 (0 : Int32) d_jdk_116m22_61 rfl rfl ?_
    exact r_N D0 hret (by simp) hlk d_jdk_116m22_62 ⟨(by decide : some (Value.int (nar .boolean (0 : Int32))) = some (.int (own_ci (65 : Int32) (66 : Int32)))), rfl, rfl⟩ (by decide) (by decide)
  · show Go p e below _ (s₁.setTop (mkF m 0 #[.val (.int (98 : Int32)), .val (.int (97 : Int32)), .unset] []))
    refine g_iloadN D0 1 d_jdk_116m22_0 rfl rfl ?_
    refine g_iloadN D0 2 d_jdk_116m22_1 rfl rfl ?_
    refine g_icmpY D0 7 d_jdk_116m22_2 (by decide) (by decide) (by decide) ?_
    refine g_iloadN D0 8 d_jdk_116m22_7 rfl rfl ?_
    refine g_sipush D0 11 (223 : Int32) d_jdk_116m22_8 rfl rfl ?_
    refine g_iand D0 12 d_jdk_116m22_11 rfl ?_
    rw [show ((98 : Int32) &&& (223 : Int32)) = (66 : Int32) from by decide]
    refine g_istoreN D0 13 #[.val (.int (98 : Int32)), .val (.int (97 : Int32)), .val (.int (66 : Int32))] d_jdk_116m22_12 rfl rfl ?_
    refine g_iloadN D0 14 d_jdk_116m22_13 rfl rfl ?_
    refine g_bipush D0 16 (65 : Int32) d_jdk_116m22_14 rfl rfl ?_
    refine g_icmpY D0 21 d_jdk_116m22_16 (by decide) (by decide) (by decide) ?_
    refine g_iloadN D0 22 d_jdk_116m22_21 rfl rfl ?_
    refine g_bipush D0 24 (90 : Int32) d_jdk_116m22_22 rfl rfl ?_
    refine g_icmpY D0 48 d_jdk_116m22_24 (by decide) (by decide) (by decide) ?_
    refine g_iloadN D0 49 d_jdk_116m22_48 rfl rfl ?_
    refine g_iloadN D0 50 d_jdk_116m22_49 rfl rfl ?_
    refine g_sipush D0 53 (223 : Int32) d_jdk_116m22_50 rfl rfl ?_
    refine g_iand D0 54 d_jdk_116m22_53 rfl ?_
    rw [show ((97 : Int32) &&& (223 : Int32)) = (65 : Int32) from by decide]
    refine g_icmpY D0 61 d_jdk_116m22_54 (by decide) (by decide) (by decide) ?_
    refine g_iconst D0 62 (0 : Int32) d_jdk_116m22_61 rfl rfl ?_
    exact r_N D0 hret (by simp) hlk d_jdk_116m22_62 ⟨(by decide : some (Value.int (nar .boolean (0 : Int32))) = some (.int (own_ci (98 : Int32) (97 : Int32)))), rfl, rfl⟩ (by decide) (by decide)
  · show Go p e below _ (s₁.setTop (mkF m 0 #[.val (.int (98 : Int32)), .val (.int (65 : Int32)), .unset] []))
    refine g_iloadN D0 1 d_jdk_116m22_0 rfl rfl ?_
    refine g_iloadN D0 2 d_jdk_116m22_1 rfl rfl ?_
    refine g_icmpY D0 7 d_jdk_116m22_2 (by decide) (by decide) (by decide) ?_
    refine g_iloadN D0 8 d_jdk_116m22_7 rfl rfl ?_
    refine g_sipush D0 11 (223 : Int32) d_jdk_116m22_8 rfl rfl ?_
    refine g_iand D0 12 d_jdk_116m22_11 rfl ?_
    rw [show ((98 : Int32) &&& (223 : Int32)) = (66 : Int32) from by decide]
    refine g_istoreN D0 13 #[.val (.int (98 : Int32)), .val (.int (65 : Int32)), .val (.int (66 : Int32))] d_jdk_116m22_12 rfl rfl ?_
    refine g_iloadN D0 14 d_jdk_116m22_13 rfl rfl ?_
    refine g_bipush D0 16 (65 : Int32) d_jdk_116m22_14 rfl rfl ?_
    refine g_icmpY D0 21 d_jdk_116m22_16 (by decide) (by decide) (by decide) ?_
    refine g_iloadN D0 22 d_jdk_116m22_21 rfl rfl ?_
    refine g_bipush D0 24 (90 : Int32) d_jdk_116m22_22 rfl rfl ?_
    refine g_icmpY D0 48 d_jdk_116m22_24 (by decide) (by decide) (by decide) ?_
    refine g_iloadN D0 49 d_jdk_116m22_48 rfl rfl ?_
    refine g_iloadN D0 50 d_jdk_116m22_49 rfl rfl ?_
    refine g_sipush D0 53 (223 : Int32) d_jdk_116m22_50 rfl rfl ?_
    refine g_iand D0 54 d_jdk_116m22_53 rfl ?_
    rw [show ((65 : Int32) &&& (223 : Int32)) = (65 : Int32) from by decide]
    refine g_icmpY D0 61 d_jdk_116m22_54 (by decide) (by decide) (by decide) ?_
    refine g_iconst D0 62 (0 : Int32) d_jdk_116m22_61 rfl rfl ?_
    exact r_N D0 hret (by simp) hlk d_jdk_116m22_62 ⟨(by decide : some (Value.int (nar .boolean (0 : Int32))) = some (.int (own_ci (98 : Int32) (65 : Int32)))), rfl, rfl⟩ (by decide) (by decide)
  · show Go p e below _ (s₁.setTop (mkF m 0 #[.val (.int (98 : Int32)), .val (.int (98 : Int32)), .unset] []))
    refine g_iloadN D0 1 d_jdk_116m22_0 rfl rfl ?_
    refine g_iloadN D0 2 d_jdk_116m22_1 rfl rfl ?_
    refine g_icmpN D0 5 d_jdk_116m22_2 (by decide) rfl ?_
    refine g_iconst D0 6 (1 : Int32) d_jdk_116m22_5 rfl rfl ?_
    exact r_N D0 hret (by simp) hlk d_jdk_116m22_6 ⟨(by decide : some (Value.int (nar .boolean (1 : Int32))) = some (.int (own_ci (98 : Int32) (98 : Int32)))), rfl, rfl⟩ (by decide) (by decide)
  · show Go p e below _ (s₁.setTop (mkF m 0 #[.val (.int (98 : Int32)), .val (.int (66 : Int32)), .unset] []))
    refine g_iloadN D0 1 d_jdk_116m22_0 rfl rfl ?_
    refine g_iloadN D0 2 d_jdk_116m22_1 rfl rfl ?_
    refine g_icmpY D0 7 d_jdk_116m22_2 (by decide) (by decide) (by decide) ?_
    refine g_iloadN D0 8 d_jdk_116m22_7 rfl rfl ?_
    refine g_sipush D0 11 (223 : Int32) d_jdk_116m22_8 rfl rfl ?_
    refine g_iand D0 12 d_jdk_116m22_11 rfl ?_
    rw [show ((98 : Int32) &&& (223 : Int32)) = (66 : Int32) from by decide]
    refine g_istoreN D0 13 #[.val (.int (98 : Int32)), .val (.int (66 : Int32)), .val (.int (66 : Int32))] d_jdk_116m22_12 rfl rfl ?_
    refine g_iloadN D0 14 d_jdk_116m22_13 rfl rfl ?_
    refine g_bipush D0 16 (65 : Int32) d_jdk_116m22_14 rfl rfl ?_
    refine g_icmpY D0 21 d_jdk_116m22_16 (by decide) (by decide) (by decide) ?_
    refine g_iloadN D0 22 d_jdk_116m22_21 rfl rfl ?_
    refine g_bipush D0 24 (90 : Int32) d_jdk_116m22_22 rfl rfl ?_
    refine g_icmpY D0 48 d_jdk_116m22_24 (by decide) (by decide) (by decide) ?_
    refine g_iloadN D0 49 d_jdk_116m22_48 rfl rfl ?_
    refine g_iloadN D0 50 d_jdk_116m22_49 rfl rfl ?_
    refine g_sipush D0 53 (223 : Int32) d_jdk_116m22_50 rfl rfl ?_
    refine g_iand D0 54 d_jdk_116m22_53 rfl ?_
    rw [show ((66 : Int32) &&& (223 : Int32)) = (66 : Int32) from by decide]
    refine g_icmpN D0 57 d_jdk_116m22_54 (by decide) rfl ?_
    refine g_iconst D0 58 (1 : Int32) d_jdk_116m22_57 rfl rfl ?_
    refine g_goto D0 62 d_jdk_116m22_58 (by decide) (by decide) ?_
    exact r_N D0 hret (by simp) hlk d_jdk_116m22_62 ⟨(by decide : some (Value.int (nar .boolean (1 : Int32))) = some (.int (own_ci (98 : Int32) (66 : Int32)))), rfl, rfl⟩ (by decide) (by decide)
  · show Go p e below _ (s₁.setTop (mkF m 0 #[.val (.int (66 : Int32)), .val (.int (97 : Int32)), .unset] []))
    refine g_iloadN D0 1 d_jdk_116m22_0 rfl rfl ?_
    refine g_iloadN D0 2 d_jdk_116m22_1 rfl rfl ?_
    refine g_icmpY D0 7 d_jdk_116m22_2 (by decide) (by decide) (by decide) ?_
    refine g_iloadN D0 8 d_jdk_116m22_7 rfl rfl ?_
    refine g_sipush D0 11 (223 : Int32) d_jdk_116m22_8 rfl rfl ?_
    refine g_iand D0 12 d_jdk_116m22_11 rfl ?_
    rw [show ((66 : Int32) &&& (223 : Int32)) = (66 : Int32) from by decide]
    refine g_istoreN D0 13 #[.val (.int (66 : Int32)), .val (.int (97 : Int32)), .val (.int (66 : Int32))] d_jdk_116m22_12 rfl rfl ?_
    refine g_iloadN D0 14 d_jdk_116m22_13 rfl rfl ?_
    refine g_bipush D0 16 (65 : Int32) d_jdk_116m22_14 rfl rfl ?_
    refine g_icmpY D0 21 d_jdk_116m22_16 (by decide) (by decide) (by decide) ?_
    refine g_iloadN D0 22 d_jdk_116m22_21 rfl rfl ?_
    refine g_bipush D0 24 (90 : Int32) d_jdk_116m22_22 rfl rfl ?_
    refine g_icmpY D0 48 d_jdk_116m22_24 (by decide) (by decide) (by decide) ?_
    refine g_iloadN D0 49 d_jdk_116m22_48 rfl rfl ?_
    refine g_iloadN D0 50 d_jdk_116m22_49 rfl rfl ?_
    refine g_sipush D0 53 (223 : Int32) d_jdk_116m22_50 rfl rfl ?_
    refine g_iand D0 54 d_jdk_116m22_53 rfl ?_
    rw [show ((97 : Int32) &&& (223 : Int32)) = (65 : Int32) from by decide]
    refine g_icmpY D0 61 d_jdk_116m22_54 (by decide) (by decide) (by decide) ?_
    refine g_iconst D0 62 (0 : Int32) d_jdk_116m22_61 rfl rfl ?_
    exact r_N D0 hret (by simp) hlk d_jdk_116m22_62 ⟨(by decide : some (Value.int (nar .boolean (0 : Int32))) = some (.int (own_ci (66 : Int32) (97 : Int32)))), rfl, rfl⟩ (by decide) (by decide)
  · show Go p e below _ (s₁.setTop (mkF m 0 #[.val (.int (66 : Int32)), .val (.int (65 : Int32)), .unset] []))
    refine g_iloadN D0 1 d_jdk_116m22_0 rfl rfl ?_
    refine g_iloadN D0 2 d_jdk_116m22_1 rfl rfl ?_
    refine g_icmpY D0 7 d_jdk_116m22_2 (by decide) (by decide) (by decide) ?_
    refine g_iloadN D0 8 d_jdk_116m22_7 rfl rfl ?_
    refine g_sipush D0 11 (223 : Int32) d_jdk_116m22_8 rfl rfl ?_
    refine g_iand D0 12 d_jdk_116m22_11 rfl ?_
    rw [show ((66 : Int32) &&& (223 : Int32)) = (66 : Int32) from by decide]
    refine g_istoreN D0 13 #[.val (.int (66 : Int32)), .val (.int (65 : Int32)), .val (.int (66 : Int32))] d_jdk_116m22_12 rfl rfl ?_
    refine g_iloadN D0 14 d_jdk_116m22_13 rfl rfl ?_
    refine g_bipush D0 16 (65 : Int32) d_jdk_116m22_14 rfl rfl ?_
    refine g_icmpY D0 21 d_jdk_116m22_16 (by decide) (by decide) (by decide) ?_
    refine g_iloadN D0 22 d_jdk_116m22_21 rfl rfl ?_
    refine g_bipush D0 24 (90 : Int32) d_jdk_116m22_22 rfl rfl ?_
    refine g_icmpY D0 48 d_jdk_116m22_24 (by decide) (by decide) (by decide) ?_
    refine g_iloadN D0 49 d_jdk_116m22_48 rfl rfl ?_
    refine g_iloadN D0 50 d_jdk_116m22_49 rfl rfl ?_
    refine g_sipush D0 53 (223 : Int32) d_jdk_116m22_50 rfl rfl ?_
    refine g_iand D0 54 d_jdk_116m22_53 rfl ?_
    rw [show ((65 : Int32) &&& (223 : Int32)) = (65 : Int32) from by decide]
    refine g_icmpY D0 61 d_jdk_116m22_54 (by decide) (by decide) (by decide) ?_
    refine g_iconst D0 62 (0 : Int32) d_jdk_116m22_61 rfl rfl ?_
    exact r_N D0 hret (by simp) hlk d_jdk_116m22_62 ⟨(by decide : some (Value.int (nar .boolean (0 : Int32))) = some (.int (own_ci (66 : Int32) (65 : Int32)))), rfl, rfl⟩ (by decide) (by decide)
  · show Go p e below _ (s₁.setTop (mkF m 0 #[.val (.int (66 : Int32)), .val (.int (98 : Int32)), .unset] []))
    refine g_iloadN D0 1 d_jdk_116m22_0 rfl rfl ?_
    refine g_iloadN D0 2 d_jdk_116m22_1 rfl rfl ?_
    refine g_icmpY D0 7 d_jdk_116m22_2 (by decide) (by decide) (by decide) ?_
    refine g_iloadN D0 8 d_jdk_116m22_7 rfl rfl ?_
    refine g_sipush D0 11 (223 : Int32) d_jdk_116m22_8 rfl rfl ?_
    refine g_iand D0 12 d_jdk_116m22_11 rfl ?_
    rw [show ((66 : Int32) &&& (223 : Int32)) = (66 : Int32) from by decide]
    refine g_istoreN D0 13 #[.val (.int (66 : Int32)), .val (.int (98 : Int32)), .val (.int (66 : Int32))] d_jdk_116m22_12 rfl rfl ?_
    refine g_iloadN D0 14 d_jdk_116m22_13 rfl rfl ?_
    refine g_bipush D0 16 (65 : Int32) d_jdk_116m22_14 rfl rfl ?_
    refine g_icmpY D0 21 d_jdk_116m22_16 (by decide) (by decide) (by decide) ?_
    refine g_iloadN D0 22 d_jdk_116m22_21 rfl rfl ?_
    refine g_bipush D0 24 (90 : Int32) d_jdk_116m22_22 rfl rfl ?_
    refine g_icmpY D0 48 d_jdk_116m22_24 (by decide) (by decide) (by decide) ?_
    refine g_iloadN D0 49 d_jdk_116m22_48 rfl rfl ?_
    refine g_iloadN D0 50 d_jdk_116m22_49 rfl rfl ?_
    refine g_sipush D0 53 (223 : Int32) d_jdk_116m22_50 rfl rfl ?_
    refine g_iand D0 54 d_jdk_116m22_53 rfl ?_
    rw [show ((98 : Int32) &&& (223 : Int32)) = (66 : Int32) from by decide]
    refine g_icmpN D0 57 d_jdk_116m22_54 (by decide) rfl ?_
    refine g_iconst D0 58 (1 : Int32) d_jdk_116m22_57 rfl rfl ?_
    refine g_goto D0 62 d_jdk_116m22_58 (by decide) (by decide) ?_
    exact r_N D0 hret (by simp) hlk d_jdk_116m22_62 ⟨(by decide : some (Value.int (nar .boolean (1 : Int32))) = some (.int (own_ci (66 : Int32) (98 : Int32)))), rfl, rfl⟩ (by decide) (by decide)
  · show Go p e below _ (s₁.setTop (mkF m 0 #[.val (.int (66 : Int32)), .val (.int (66 : Int32)), .unset] []))
    refine g_iloadN D0 1 d_jdk_116m22_0 rfl rfl ?_
    refine g_iloadN D0 2 d_jdk_116m22_1 rfl rfl ?_
    refine g_icmpN D0 5 d_jdk_116m22_2 (by decide) rfl ?_
    refine g_iconst D0 6 (1 : Int32) d_jdk_116m22_5 rfl rfl ?_
    exact r_N D0 hret (by simp) hlk d_jdk_116m22_6 ⟨(by decide : some (Value.int (nar .boolean (1 : Int32))) = some (.int (own_ci (66 : Int32) (66 : Int32)))), rfl, rfl⟩ (by decide) (by decide)
theorem cRC (l : Launch) (Z : State) (a0 : Array Value) (hw : tHW Z a0) (ws : List Jvm.Cond) (t u : Addr) (kt ku : ClassId) (j k : Int32) (h0 : Heap) (n0 : Nat) (Z0 : n0 ≤ h0.size) (V_t : Arv Z h0 t kt .byte (1 : Int32) [(.int (StrChars.lo8 j))] (.int (0 : Int32))) (V_u : Arv Z h0 u ku .byte (1 : Int32) [(.int (StrChars.lo8 k))] (.int (0 : Int32))) (hj : own_isl j) (hk : own_isl k) :
    Con l (⟨"java/lang/StringLatin1", "regionMatchesCI", "([BI[BII)Z"⟩ : MethodName) jdk_43_method_30_code 8 (some .boolean) ws ({ frames := 1, cells := 0, slots := 0, locals := 16 } : Room) Z #[(.ref t), (.int (0 : Int32)), (.ref u), (.int (0 : Int32)), (.int (1 : Int32))] h0 (fun v h L => v = some (.int (own_ci j k)) ∧ L = [] ∧ h = h0) 0 0 := by
  refine enter (plainFor_of_name pn_1) ?_
  intro p e s m below meth c s₁ hnm hret hlk D0
  rw [ef_cRC m t u]
  refine g_iloadN D0 1 d_jdk_43m30_0 rfl rfl ?_
  refine g_iload D0 3 d_jdk_43m30_1 rfl rfl ?_
  refine g_iadd D0 4 d_jdk_43m30_3 rfl ?_
  rw [show ((0 : Int32) + (1 : Int32)) = (1 : Int32) from by decide]
  refine g_istore D0 6 #[.val (.ref t), .val (.int (0 : Int32)), .val (.ref u), .val (.int (0 : Int32)), .val (.int (1 : Int32)), .val (.int (1 : Int32)), .unset, .unset] d_jdk_43m30_4 rfl rfl ?_
  refine g_iloadN D0 7 d_jdk_43m30_6 rfl rfl ?_
  refine g_iload D0 9 d_jdk_43m30_7 rfl rfl ?_
  refine g_icmpN D0 12 d_jdk_43m30_9 (by decide) rfl ?_
  refine g_aloadN D0 13 d_jdk_43m30_12 rfl rfl rfl ?_
  refine g_iloadN D0 14 d_jdk_43m30_13 rfl rfl ?_
  refine g_iinc D0 17 (1 : Int32) #[.val (.ref t), .val (.int ((0 : Int32) + (1 : Int32))), .val (.ref u), .val (.int (0 : Int32)), .val (.int (1 : Int32)), .val (.int (1 : Int32)), .unset, .unset] d_jdk_43m30_14 rfl rfl rfl rfl ?_
  rw [show ((0 : Int32) + (1 : Int32)) = (1 : Int32) from by decide]
  refine g_baload D0 18 V_t (v := (.int j)) ⟨by decide, by decide⟩ (congrArg Value.int (own_isl8 hj).2.1) d_jdk_43m30_17 rfl ?_
  refine g_istore D0 20 #[.val (.ref t), .val (.int (1 : Int32)), .val (.ref u), .val (.int (0 : Int32)), .val (.int (1 : Int32)), .val (.int (1 : Int32)), .val (.int j), .unset] d_jdk_43m30_18 rfl rfl ?_
  refine g_aloadN D0 21 d_jdk_43m30_20 rfl rfl rfl ?_
  refine g_iloadN D0 22 d_jdk_43m30_21 rfl rfl ?_
  refine g_iinc D0 25 (1 : Int32) #[.val (.ref t), .val (.int (1 : Int32)), .val (.ref u), .val (.int ((0 : Int32) + (1 : Int32))), .val (.int (1 : Int32)), .val (.int (1 : Int32)), .val (.int j), .unset] d_jdk_43m30_22 rfl rfl rfl rfl ?_
  rw [show ((0 : Int32) + (1 : Int32)) = (1 : Int32) from by decide]
  refine g_baload D0 26 V_u (v := (.int k)) ⟨by decide, by decide⟩ (congrArg Value.int (own_isl8 hk).2.1) d_jdk_43m30_25 rfl ?_
  refine g_istore D0 28 #[.val (.ref t), .val (.int (1 : Int32)), .val (.ref u), .val (.int (1 : Int32)), .val (.int (1 : Int32)), .val (.int (1 : Int32)), .val (.int j), .val (.int k)] d_jdk_43m30_26 rfl rfl ?_
  refine g_iload D0 30 d_jdk_43m30_28 rfl rfl ?_
  refine g_iload D0 32 d_jdk_43m30_30 rfl rfl ?_
  refine g_callSp D0 35 (hw _ w_174) (hw _ w_175) (hw _ w_176) (hw _ w_177) (by decide) ((cCD l Z a0 hw [] j k h0 n0 Z0 hj hk).back D0 0 (hw _ w_177) (hw _ w_176) (by decide) (by decide)) rfl [(.int j), (.int k)] rfl (lenOf pd_12 rfl) rfl (Nat.le_of_eq rfl) (by decide) (by decide) d_jdk_43m30_32 rfl ?_
  intro v164 T164 q164 D164
  subst q164
  show Go p e below _ (T164.setTop (mkF m 35 #[.val (.ref t), .val (.int (1 : Int32)), .val (.ref u), .val (.int (1 : Int32)), .val (.int (1 : Int32)), .val (.int (1 : Int32)), .val (.int j), .val (.int k)] [(.int (own_ci j k))]))
  by_cases z0 : (own_ci j k) = (0 : Int32)
  · refine g_ifY D164 41 d_jdk_43m30_35 (teq z0).1 (by decide) (by decide) ?_
    refine g_iconst D164 42 (0 : Int32) d_jdk_43m30_41 rfl rfl ?_
    exact r_N D164 hret (by simp) hlk d_jdk_43m30_42 ⟨congrArg (fun z => some (Value.int z)) (own_nar0.trans z0.symm), rfl, rfl⟩ (by decide) (by decide)
  refine g_ifN D164 38 d_jdk_43m30_35 (feq z0).1 rfl ?_
  refine g_goto D164 6 d_jdk_43m30_38 (by decide) (by decide) ?_
  refine g_iloadN D164 7 d_jdk_43m30_6 rfl rfl ?_
  refine g_iload D164 9 d_jdk_43m30_7 rfl rfl ?_
  refine g_icmpY D164 43 d_jdk_43m30_9 (by decide) (by decide) (by decide) ?_
  refine g_iconst D164 44 (1 : Int32) d_jdk_43m30_43 rfl rfl ?_
  exact r_N D164 hret (by simp) hlk d_jdk_43m30_44 ⟨congrArg (fun z => some (Value.int z)) (own_nar1.trans (own_ci1 z0).symm), rfl, rfl⟩ (by decide) (by decide)
theorem cCoS (l : Launch) (Z : State) (a0 : Array Value) (hw : tHW Z a0) (ws : List Jvm.Cond) (g : Addr) (zc : Int32) (h0 : Heap) (n0 : Nat) (Z0 : n0 ≤ h0.size) (OLD : Old Z n0 h0) (CS : tCS Z zc) (hzc : ¬ zc = 0) (F_sc : Fld Z h0 g "java/lang/String" "coder" "B" (.int (0 : Int32))) :
    Con l (⟨"java/lang/String", "coder", "()B"⟩ : MethodName) jdk_42_method_152_code 1 (some .byte) ws ({ frames := 0, cells := 0, slots := 0, locals := 0 } : Room) Z #[(.ref g)] h0 (fun v h L => v = some (.int (0 : Int32)) ∧ L = [] ∧ h = h0) 0 0 := by
  refine enter (plainFor_of_name pn_0) ?_
  intro p e s m below meth c s₁ hnm hret hlk D0
  rw [ef_cCoS m g]
  refine g_getS D0 3 (hw _ w_8) Via.refl (CS.ext OLD.2) d_jdk_42m152_0 rfl ?_
  intro T165 D165
  refine g_ifN D165 6 d_jdk_42m152_3 (feq hzc).1 rfl ?_
  refine g_aloadN D165 7 d_jdk_42m152_6 rfl rfl rfl ?_
  refine g_getF D165 10 (hw _ w_28) Via.refl F_sc d_jdk_42m152_7 rfl ?_
  intro T166 D166
  refine g_goto D166 14 d_jdk_42m152_10 (by decide) (by decide) ?_
  exact r_N D166 hret (by simp) hlk d_jdk_42m152_14 ⟨(by decide : some (Value.int (nar .byte (0 : Int32))) = some (.int 0)), rfl, rfl⟩ (by decide) (by decide)
theorem cRM (l : Launch) (Z : State) (a0 : Array Value) (hw : tHW Z a0) (ws : List Jvm.Cond) (x y : Addr) (j k zc : Int32) (h0 : Heap) (n0 : Nat) (Z0 : n0 ≤ h0.size) (OLD : Old Z n0 h0) (CS : tCS Z zc) (hzc : ¬ zc = 0) (X_x : LS Z h0 x [j]) (X_y : LS Z h0 y [k]) (hj : own_isl j) (hk : own_isl k) :
    Con l (⟨"java/lang/String", "regionMatches", "(ZILjava/lang/String;II)Z"⟩ : MethodName) jdk_42_method_74_code 9 (some .boolean) ws ({ frames := 2, cells := 0, slots := 0, locals := 40 } : Room) Z #[(.ref x), (.int (1 : Int32)), (.int (0 : Int32)), (.ref y), (.int (0 : Int32)), (.int (1 : Int32))] h0 (fun v h L => v = some (.int (own_ci j k)) ∧ L = [] ∧ h = h0) 0 0 := by
  refine enter (plainFor_of_name pn_0) ?_
  intro p e s m below meth c s₁ hnm hret hlk D0
  rw [ef_cRM m x y]
  obtain ⟨t, kt, x1, x2, x3, x4, x5, x6⟩ := (id X_x)
  obtain ⟨u, ku, y1, y2, y3, y4, y5, y6⟩ := (id X_y)
  refine g_iloadN D0 1 d_jdk_42m74_0 rfl rfl ?_
  refine g_ifY D0 15 d_jdk_42m74_1 (by decide) (by decide) (by decide) ?_
  refine g_iload D0 17 d_jdk_42m74_15 rfl rfl ?_
  refine g_ifN D0 20 d_jdk_42m74_17 (by decide) rfl ?_
  refine g_iloadN D0 21 d_jdk_42m74_20 rfl rfl ?_
  refine g_ifN D0 24 d_jdk_42m74_21 (by decide) rfl ?_
  refine g_iloadN D0 25 d_jdk_42m74_24 rfl rfl ?_
  refine g_i2l D0 26 d_jdk_42m74_25 rfl ?_
  refine g_aloadN D0 27 d_jdk_42m74_26 rfl rfl rfl ?_
  refine g_callVp D0 30 (hw _ w_77) (hw _ w_78) (notFace_of_selects (args := #[]) (mvT D0.wm (hw _ w_80))) (hw _ w_80) (hw _ w_79) (by decide) (TS.lenB 2 D0 hw (LS.ts X_x) (CS.ext OLD.2) hzc (by decide) (by decide)) X_x.exa rfl [] rfl (lenOf pd_4 rfl) rfl (Nat.le_of_eq rfl) (by decide) (by decide) d_jdk_42m74_27 rfl ?_
  intro v167 T167 q167 D167
  subst q167
  show Go p e below _ (T167.setTop (mkF m 30 #[.val (.ref x), .val (.int (1 : Int32)), .val (.int (0 : Int32)), .val (.ref y), .val (.int (0 : Int32)), .val (.int (1 : Int32)), .unset, .unset, .unset] [(.int (1 : Int32)), (.long ((0 : Int32).toInt64))]))
  refine g_i2l D167 31 d_jdk_42m74_30 rfl ?_
  refine g_iload D167 33 d_jdk_42m74_31 rfl rfl ?_
  refine g_i2l D167 34 d_jdk_42m74_33 rfl ?_
  refine g_lsub D167 35 d_jdk_42m74_34 rfl ?_
  refine g_lcmp D167 36 d_jdk_42m74_35 rfl ?_
  refine g_ifN D167 39 d_jdk_42m74_36 (by decide) rfl ?_
  refine g_iload D167 41 d_jdk_42m74_39 rfl rfl ?_
  refine g_i2l D167 42 d_jdk_42m74_41 rfl ?_
  refine g_aloadN D167 43 d_jdk_42m74_42 rfl rfl rfl ?_
  refine g_callVp D167 46 (hw _ w_77) (hw _ w_78) (notFace_of_selects (args := #[]) (mvT D167.wm (hw _ w_80))) (hw _ w_80) (hw _ w_79) (by decide) (TS.lenB 2 D167 hw (LS.ts X_y) (CS.ext OLD.2) hzc (by decide) (by decide)) X_y.exa rfl [] rfl (lenOf pd_4 rfl) rfl (Nat.le_of_eq rfl) (by decide) (by decide) d_jdk_42m74_43 rfl ?_
  intro v168 T168 q168 D168
  subst q168
  show Go p e below _ (T168.setTop (mkF m 46 #[.val (.ref x), .val (.int (1 : Int32)), .val (.int (0 : Int32)), .val (.ref y), .val (.int (0 : Int32)), .val (.int (1 : Int32)), .unset, .unset, .unset] [(.int (1 : Int32)), (.long ((0 : Int32).toInt64))]))
  refine g_i2l D168 47 d_jdk_42m74_46 rfl ?_
  refine g_iload D168 49 d_jdk_42m74_47 rfl rfl ?_
  refine g_i2l D168 50 d_jdk_42m74_49 rfl ?_
  refine g_lsub D168 51 d_jdk_42m74_50 rfl ?_
  refine g_lcmp D168 52 d_jdk_42m74_51 rfl ?_
  refine g_ifY D168 57 d_jdk_42m74_52 (by decide) (by decide) (by decide) ?_
  refine g_aloadN D168 58 d_jdk_42m74_57 rfl rfl rfl ?_
  refine g_getF D168 61 (hw _ w_26) Via.refl x3 d_jdk_42m74_58 rfl ?_
  intro T169 D169
  refine g_astore D169 63 #[.val (.ref x), .val (.int (1 : Int32)), .val (.int (0 : Int32)), .val (.ref y), .val (.int (0 : Int32)), .val (.int (1 : Int32)), .val (.ref t), .unset, .unset] d_jdk_42m74_61 rfl rfl rfl ?_
  refine g_aloadN D169 64 d_jdk_42m74_63 rfl rfl rfl ?_
  refine g_getF D169 67 (hw _ w_26) Via.refl y3 d_jdk_42m74_64 rfl ?_
  intro T170 D170
  refine g_astore D170 69 #[.val (.ref x), .val (.int (1 : Int32)), .val (.int (0 : Int32)), .val (.ref y), .val (.int (0 : Int32)), .val (.int (1 : Int32)), .val (.ref t), .val (.ref u), .unset] d_jdk_42m74_67 rfl rfl rfl ?_
  refine g_aloadN D170 70 d_jdk_42m74_69 rfl rfl rfl ?_
  refine g_callVp D170 73 (hw _ w_82) (hw _ w_83) (notFace_of_selects (args := #[]) (mvT D170.wm (hw _ w_85))) (hw _ w_85) (hw _ w_84) (by decide) ((cCoS l Z a0 hw [] x zc h0 n0 Z0 OLD CS hzc x2).back D170 0 (hw _ w_86) (hw _ w_6) (by decide) (by decide)) x1 rfl [] rfl (lenOf pd_13 rfl) rfl (Nat.le_of_eq rfl) (by decide) (by decide) d_jdk_42m74_70 rfl ?_
  intro v171 T171 q171 D171
  subst q171
  show Go p e below _ (T171.setTop (mkF m 73 #[.val (.ref x), .val (.int (1 : Int32)), .val (.int (0 : Int32)), .val (.ref y), .val (.int (0 : Int32)), .val (.int (1 : Int32)), .val (.ref t), .val (.ref u), .unset] [(.int (0 : Int32))]))
  refine g_istore D171 75 #[.val (.ref x), .val (.int (1 : Int32)), .val (.int (0 : Int32)), .val (.ref y), .val (.int (0 : Int32)), .val (.int (1 : Int32)), .val (.ref t), .val (.ref u), .val (.int (0 : Int32))] d_jdk_42m74_73 rfl rfl ?_
  refine g_iload D171 77 d_jdk_42m74_75 rfl rfl ?_
  refine g_aloadN D171 78 d_jdk_42m74_77 rfl rfl rfl ?_
  refine g_callVp D171 81 (hw _ w_82) (hw _ w_83) (notFace_of_selects (args := #[]) (mvT D171.wm (hw _ w_85))) (hw _ w_85) (hw _ w_84) (by decide) ((cCoS l Z a0 hw [] y zc h0 n0 Z0 OLD CS hzc y2).back D171 1 (hw _ w_86) (hw _ w_6) (by decide) (by decide)) y1 rfl [] rfl (lenOf pd_13 rfl) rfl (Nat.le_of_eq rfl) (by decide) (by decide) d_jdk_42m74_78 rfl ?_
  intro v172 T172 q172 D172
  subst q172
  show Go p e below _ (T172.setTop (mkF m 81 #[.val (.ref x), .val (.int (1 : Int32)), .val (.int (0 : Int32)), .val (.ref y), .val (.int (0 : Int32)), .val (.int (1 : Int32)), .val (.ref t), .val (.ref u), .val (.int (0 : Int32))] [(.int (0 : Int32)), (.int (0 : Int32))]))
  refine g_icmpN D172 84 d_jdk_42m74_81 (by decide) rfl ?_
  refine g_iload D172 86 d_jdk_42m74_84 rfl rfl ?_
  refine g_ifN D172 89 d_jdk_42m74_86 (by decide) rfl ?_
  refine g_aload D172 91 d_jdk_42m74_89 rfl rfl rfl ?_
  refine g_iloadN D172 92 d_jdk_42m74_91 rfl rfl ?_
  refine g_aload D172 94 d_jdk_42m74_92 rfl rfl rfl ?_
  refine g_iload D172 96 d_jdk_42m74_94 rfl rfl ?_
  refine g_iload D172 98 d_jdk_42m74_96 rfl rfl ?_
  refine g_callSp D172 101 (hw _ w_171) (hw _ w_172) (hw _ w_11) (hw _ w_173) (by decide) ((cRC l Z a0 hw [] t u kt ku j k h0 n0 Z0 x4 y4 hj hk).back D172 0 (hw _ w_173) (hw _ w_11) (by decide) (by decide)) rfl [(.ref t), (.int (0 : Int32)), (.ref u), (.int (0 : Int32)), (.int (1 : Int32))] rfl (lenOf pd_14 rfl) rfl (Nat.le_of_eq rfl) (by decide) (by decide) d_jdk_42m74_98 rfl ?_
  intro v173 T173 q173 D173
  subst q173
  show Go p e below _ (T173.setTop (mkF m 101 #[.val (.ref x), .val (.int (1 : Int32)), .val (.int (0 : Int32)), .val (.ref y), .val (.int (0 : Int32)), .val (.int (1 : Int32)), .val (.ref t), .val (.ref u), .val (.int (0 : Int32))] [(.int (own_ci j k))]))
  refine g_goto D173 116 d_jdk_42m74_101 (by decide) (by decide) ?_
  exact r_N D173 hret (by simp) hlk d_jdk_42m74_116 ⟨congrArg (fun z => some (Value.int z)) own_nci, rfl, rfl⟩ (by decide) (by decide)
theorem cEI1 (l : Launch) (Z : State) (a0 : Array Value) (hw : tHW Z a0) (ws : List Jvm.Cond) (x y : Addr) (j k zc : Int32) (h0 : Heap) (n0 : Nat) (Z0 : n0 ≤ h0.size) (OLD : Old Z n0 h0) (CS : tCS Z zc) (hzc : ¬ zc = 0) (X_x : LS Z h0 x [j]) (X_y : LS Z h0 y [k]) (hj : own_isl j) (hk : own_isl k) (hne : x ≠ y) :
    Con l (⟨"java/lang/String", "equalsIgnoreCase", "(Ljava/lang/String;)Z"⟩ : MethodName) jdk_42_method_70_code 2 (some .boolean) ws ({ frames := 3, cells := 0, slots := 0, locals := 64 } : Room) Z #[(.ref x), (.ref y)] h0 (fun v h L => v = some (.int (own_ci j k)) ∧ L = [] ∧ h = h0) 0 0 := by
  refine enter (plainFor_of_name pn_0) ?_
  intro p e s m below meth c s₁ hnm hret hlk D0
  rw [ef_cEI1 m x y]
  refine g_aloadN D0 1 d_jdk_42m70_0 rfl rfl rfl ?_
  refine g_aloadN D0 2 d_jdk_42m70_1 rfl rfl rfl ?_
  refine g_acmp D0 9 d_jdk_42m70_2 rfl rfl (same := false) (decide_eq_false fun q => hne (Value.ref.inj q)) (by decide) (by decide) ?_
  refine g_aloadN D0 10 d_jdk_42m70_9 rfl rfl rfl ?_
  refine g_nullN D0 13 d_jdk_42m70_10 rfl ?_
  refine g_aloadN D0 14 d_jdk_42m70_13 rfl rfl rfl ?_
  refine g_callVp D0 17 (hw _ w_77) (hw _ w_78) (notFace_of_selects (args := #[]) (mvT D0.wm (hw _ w_80))) (hw _ w_80) (hw _ w_79) (by decide) (TS.lenB 0 D0 hw (LS.ts X_y) (CS.ext OLD.2) hzc (by decide) (by decide)) X_y.exa rfl [] rfl (lenOf pd_4 rfl) rfl (Nat.le_of_eq rfl) (by decide) (by decide) d_jdk_42m70_14 rfl ?_
  intro v174 T174 q174 D174
  subst q174
  show Go p e below _ (T174.setTop (mkF m 17 #[.val (.ref x), .val (.ref y)] [(.int (1 : Int32))]))
  refine g_aloadN D174 18 d_jdk_42m70_17 rfl rfl rfl ?_
  refine g_callVp D174 21 (hw _ w_77) (hw _ w_78) (notFace_of_selects (args := #[]) (mvT D174.wm (hw _ w_80))) (hw _ w_80) (hw _ w_79) (by decide) (TS.lenB 1 D174 hw (LS.ts X_x) (CS.ext OLD.2) hzc (by decide) (by decide)) X_x.exa rfl [] rfl (lenOf pd_4 rfl) rfl (Nat.le_of_eq rfl) (by decide) (by decide) d_jdk_42m70_18 rfl ?_
  intro v175 T175 q175 D175
  subst q175
  show Go p e below _ (T175.setTop (mkF m 21 #[.val (.ref x), .val (.ref y)] [(.int (1 : Int32)), (.int (1 : Int32))]))
  refine g_icmpN D175 24 d_jdk_42m70_21 (by decide) rfl ?_
  refine g_aloadN D175 25 d_jdk_42m70_24 rfl rfl rfl ?_
  refine g_iconst D175 26 (1 : Int32) d_jdk_42m70_25 rfl rfl ?_
  refine g_iconst D175 27 (0 : Int32) d_jdk_42m70_26 rfl rfl ?_
  refine g_aloadN D175 28 d_jdk_42m70_27 rfl rfl rfl ?_
  refine g_iconst D175 29 (0 : Int32) d_jdk_42m70_28 rfl rfl ?_
  refine g_aloadN D175 30 d_jdk_42m70_29 rfl rfl rfl ?_
  refine g_callVp D175 33 (hw _ w_77) (hw _ w_78) (notFace_of_selects (args := #[]) (mvT D175.wm (hw _ w_80))) (hw _ w_80) (hw _ w_79) (by decide) (TS.lenB 5 D175 hw (LS.ts X_x) (CS.ext OLD.2) hzc (by decide) (by decide)) X_x.exa rfl [] rfl (lenOf pd_4 rfl) rfl (Nat.le_of_eq rfl) (by decide) (by decide) d_jdk_42m70_30 rfl ?_
  intro v176 T176 q176 D176
  subst q176
  show Go p e below _ (T176.setTop (mkF m 33 #[.val (.ref x), .val (.ref y)] [(.int (1 : Int32)), (.int (0 : Int32)), (.ref y), (.int (0 : Int32)), (.int (1 : Int32)), (.ref x)]))
  refine g_callVp D176 36 (hw _ w_166) (hw _ w_167) (notFace_of_selects (args := #[]) (mvT D176.wm (hw _ w_169))) (hw _ w_169) (hw _ w_168) (by decide) ((cRM l Z a0 hw [] x y j k zc h0 n0 Z0 OLD CS hzc X_x X_y hj hk).back D176 0 (hw _ w_170) (hw _ w_6) (by decide) (by decide)) X_x.exa rfl [(.int (1 : Int32)), (.int (0 : Int32)), (.ref y), (.int (0 : Int32)), (.int (1 : Int32))] rfl (lenOf pd_15 rfl) rfl (Nat.le_of_eq rfl) (by decide) (by decide) d_jdk_42m70_33 rfl ?_
  intro v177 T177 q177 D177
  subst q177
  show Go p e below _ (T177.setTop (mkF m 36 #[.val (.ref x), .val (.ref y)] [(.int (own_ci j k))]))
  by_cases z0 : (own_ci j k) = (0 : Int32)
  · refine g_ifY D177 43 d_jdk_42m70_36 (teq z0).1 (by decide) (by decide) ?_
    refine g_iconst D177 44 (0 : Int32) d_jdk_42m70_43 rfl rfl ?_
    exact r_N D177 hret (by simp) hlk d_jdk_42m70_44 ⟨congrArg (fun z => some (Value.int z)) (own_nar0.trans z0.symm), rfl, rfl⟩ (by decide) (by decide)
  refine g_ifN D177 39 d_jdk_42m70_36 (feq z0).1 rfl ?_
  refine g_iconst D177 40 (1 : Int32) d_jdk_42m70_39 rfl rfl ?_
  refine g_goto D177 44 d_jdk_42m70_40 (by decide) (by decide) ?_
  exact r_N D177 hret (by simp) hlk d_jdk_42m70_44 ⟨congrArg (fun z => some (Value.int z)) (own_nar1.trans (own_ci1 z0).symm), rfl, rfl⟩ (by decide) (by decide)
theorem cEI3 (l : Launch) (Z : State) (a0 : Array Value) (hw : tHW Z a0) (ws : List Jvm.Cond) (x y : Addr) (j0 j1 j k zc : Int32) (h0 : Heap) (n0 : Nat) (Z0 : n0 ≤ h0.size) (OLD : Old Z n0 h0) (CS : tCS Z zc) (hzc : ¬ zc = 0) (X_x : LS Z h0 x [j0, j1, j]) (X_y : LS Z h0 y [k]) (hne : x ≠ y) :
    Con l (⟨"java/lang/String", "equalsIgnoreCase", "(Ljava/lang/String;)Z"⟩ : MethodName) jdk_42_method_70_code 2 (some .boolean) ws ({ frames := 3, cells := 0, slots := 0, locals := 64 } : Room) Z #[(.ref x), (.ref y)] h0 (fun v h L => v = some (.int (0 : Int32)) ∧ L = [] ∧ h = h0) 0 0 := by
  refine enter (plainFor_of_name pn_0) ?_
  intro p e s m below meth c s₁ hnm hret hlk D0
  rw [ef_cEI3 m x y]
  refine g_aloadN D0 1 d_jdk_42m70_0 rfl rfl rfl ?_
  refine g_aloadN D0 2 d_jdk_42m70_1 rfl rfl rfl ?_
  refine g_acmp D0 9 d_jdk_42m70_2 rfl rfl (same := false) (decide_eq_false fun q => hne (Value.ref.inj q)) (by decide) (by decide) ?_
  refine g_aloadN D0 10 d_jdk_42m70_9 rfl rfl rfl ?_
  refine g_nullN D0 13 d_jdk_42m70_10 rfl ?_
  refine g_aloadN D0 14 d_jdk_42m70_13 rfl rfl rfl ?_
  refine g_callVp D0 17 (hw _ w_77) (hw _ w_78) (notFace_of_selects (args := #[]) (mvT D0.wm (hw _ w_80))) (hw _ w_80) (hw _ w_79) (by decide) (TS.lenB 0 D0 hw (LS.ts X_y) (CS.ext OLD.2) hzc (by decide) (by decide)) X_y.exa rfl [] rfl (lenOf pd_4 rfl) rfl (Nat.le_of_eq rfl) (by decide) (by decide) d_jdk_42m70_14 rfl ?_
  intro v178 T178 q178 D178
  subst q178
  show Go p e below _ (T178.setTop (mkF m 17 #[.val (.ref x), .val (.ref y)] [(.int (1 : Int32))]))
  refine g_aloadN D178 18 d_jdk_42m70_17 rfl rfl rfl ?_
  refine g_callVp D178 21 (hw _ w_77) (hw _ w_78) (notFace_of_selects (args := #[]) (mvT D178.wm (hw _ w_80))) (hw _ w_80) (hw _ w_79) (by decide) (TS.lenB 1 D178 hw (LS.ts X_x) (CS.ext OLD.2) hzc (by decide) (by decide)) X_x.exa rfl [] rfl (lenOf pd_4 rfl) rfl (Nat.le_of_eq rfl) (by decide) (by decide) d_jdk_42m70_18 rfl ?_
  intro v179 T179 q179 D179
  subst q179
  show Go p e below _ (T179.setTop (mkF m 21 #[.val (.ref x), .val (.ref y)] [(.int (3 : Int32)), (.int (1 : Int32))]))
  refine g_icmpY D179 43 d_jdk_42m70_21 (by decide) (by decide) (by decide) ?_
  refine g_iconst D179 44 (0 : Int32) d_jdk_42m70_43 rfl rfl ?_
  exact r_N D179 hret (by simp) hlk d_jdk_42m70_44 ⟨(by decide : some (Value.int (nar .boolean (0 : Int32))) = some (.int 0)), rfl, rfl⟩ (by decide) (by decide)
theorem cTrL_0 (l : Launch) (Z : State) (a0 : Array Value) (hw : tHW Z a0) (ws : List Jvm.Cond) (t : Addr) (kt : ClassId) (h0 : Heap) (n0 : Nat) (Z0 : n0 ≤ h0.size) (V_t : Arv Z h0 t kt .byte (0 : Int32) [] (.int (0 : Int32))) :
    Con l (⟨"java/lang/StringLatin1", "trim", "([B)Ljava/lang/String;"⟩ : MethodName) jdk_43_method_36_code 3 (some (.object "java/lang/String")) ws ({ frames := 0, cells := 0, slots := 0, locals := 0 } : Room) Z #[(.ref t)] h0 (fun v h L => v = some .null ∧ L = [] ∧ h = h0) 0 0 := by
  refine enter (plainFor_of_name pn_1) ?_
  intro p e s m below meth c s₁ hnm hret hlk D0
  rw [ef_cTrL_0 m t]
  refine g_aloadN D0 1 d_jdk_43m36_0 rfl rfl rfl ?_
  refine g_alen D0 2 V_t d_jdk_43m36_1 rfl ?_
  refine g_istoreN D0 3 #[.val (.ref t), .val (.int (0 : Int32)), .unset] d_jdk_43m36_2 rfl rfl ?_
  refine g_iconst D0 4 (0 : Int32) d_jdk_43m36_3 rfl rfl ?_
  refine g_istoreN D0 5 #[.val (.ref t), .val (.int (0 : Int32)), .val (.int (0 : Int32))] d_jdk_43m36_4 rfl rfl ?_
  refine g_iloadN D0 6 d_jdk_43m36_5 rfl rfl ?_
  refine g_iloadN D0 7 d_jdk_43m36_6 rfl rfl ?_
  refine g_icmpY D0 28 d_jdk_43m36_7 (by decide) (by decide) (by decide) ?_
  refine g_iloadN D0 29 d_jdk_43m36_28 rfl rfl ?_
  refine g_iloadN D0 30 d_jdk_43m36_29 rfl rfl ?_
  refine g_icmpY D0 53 d_jdk_43m36_30 (by decide) (by decide) (by decide) ?_
  refine g_iloadN D0 54 d_jdk_43m36_53 rfl rfl ?_
  refine g_ifN D0 57 d_jdk_43m36_54 (by decide) rfl ?_
  refine g_iloadN D0 58 d_jdk_43m36_57 rfl rfl ?_
  refine g_aloadN D0 59 d_jdk_43m36_58 rfl rfl rfl ?_
  refine g_alen D0 60 V_t d_jdk_43m36_59 rfl ?_
  refine g_icmpY D0 74 d_jdk_43m36_60 (by decide) (by decide) (by decide) ?_
  refine g_aconst D0 75 d_jdk_43m36_74 rfl ?_
  exact r_A D0 hret rfl rfl hlk d_jdk_43m36_75 ⟨rfl, rfl, rfl⟩ (by decide) (by decide)
theorem cTr_0 (l : Launch) (Z : State) (a0 : Array Value) (hw : tHW Z a0) (ws : List Jvm.Cond) (x : Addr) (zc : Int32) (h0 : Heap) (n0 : Nat) (Z0 : n0 ≤ h0.size) (OLD : Old Z n0 h0) (CS : tCS Z zc) (hzc : ¬ zc = 0) (X_x : LS Z h0 x []) :
    Con l (⟨"java/lang/String", "trim", "()Ljava/lang/String;"⟩ : MethodName) jdk_42_method_113_code 2 (some (.object "java/lang/String")) ws ({ frames := 1, cells := 0, slots := 0, locals := 16 } : Room) Z #[(.ref x)] h0 (fun v h L => v = some (.ref x) ∧ L = [] ∧ h = h0) 0 0 := by
  refine enter (plainFor_of_name pn_0) ?_
  intro p e s m below meth c s₁ hnm hret hlk D0
  rw [ef_cTr_0 m x]
  obtain ⟨t, kt, x1, x2, x3, x4, x5, x6⟩ := (id X_x)
  refine g_aloadN D0 1 d_jdk_42m113_0 rfl rfl rfl ?_
  refine g_callVp D0 4 (hw _ w_72) (hw _ w_73) (notFace_of_selects (args := #[]) (mvT D0.wm (hw _ w_75))) (hw _ w_75) (hw _ w_74) (by decide) ((cILs l Z a0 hw [] x zc h0 n0 Z0 OLD CS hzc x2).back D0 0 (hw _ w_76) (hw _ w_6) (by decide) (by decide)) x1 rfl [] rfl (lenOf pd_3 rfl) rfl (Nat.le_of_eq rfl) (by decide) (by decide) d_jdk_42m113_1 rfl ?_
  intro v180 T180 q180 D180
  subst q180
  show Go p e below _ (T180.setTop (mkF m 4 #[.val (.ref x), .unset] [(.int (1 : Int32))]))
  refine g_ifN D180 7 d_jdk_42m113_4 (by decide) rfl ?_
  refine g_aloadN D180 8 d_jdk_42m113_7 rfl rfl rfl ?_
  refine g_getF D180 11 (hw _ w_26) Via.refl x3 d_jdk_42m113_8 rfl ?_
  intro T181 D181
  refine g_callSp D181 14 (hw _ w_142) (hw _ w_143) (hw _ w_11) (hw _ w_144) (by decide) ((cTrL_0 l Z a0 hw [] t kt h0 n0 Z0 x4).back D181 0 (hw _ w_144) (hw _ w_11) (by decide) (by decide)) rfl [(.ref t)] rfl (lenOf pd_11 rfl) rfl (Nat.le_of_eq rfl) (by decide) (by decide) d_jdk_42m113_11 rfl ?_
  intro v182 T182 q182 D182
  subst q182
  show Go p e below _ (T182.setTop (mkF m 14 #[.val (.ref x), .unset] [.null]))
  refine g_goto D182 24 d_jdk_42m113_14 (by decide) (by decide) ?_
  refine g_astoreN D182 25 #[.val (.ref x), .val .null] d_jdk_42m113_24 rfl rfl rfl ?_
  refine g_aloadN D182 26 d_jdk_42m113_25 rfl rfl rfl ?_
  refine g_nnN D182 29 d_jdk_42m113_26 rfl ?_
  refine g_aloadN D182 30 d_jdk_42m113_29 rfl rfl rfl ?_
  refine g_goto D182 34 d_jdk_42m113_30 (by decide) (by decide) ?_
  exact r_A D182 hret rfl rfl hlk d_jdk_42m113_34 ⟨rfl, rfl, rfl⟩ (by decide) (by decide)
theorem cCEc (l : Launch) (Z : State) (a0 : Array Value) (hw : tHW Z a0) (ws : List Jvm.Cond) (ch : Int32) (h0 : Heap) (n0 : Nat) (Z0 : n0 ≤ h0.size) (hq : B8 ch) :
    Con l (⟨"java/lang/StringLatin1", "canEncode", "(C)Z"⟩ : MethodName) jdk_43_method_3_code 1 (some .boolean) ws ({ frames := 0, cells := 0, slots := 0, locals := 0 } : Room) Z #[(.int ch)] h0 (fun v h L => v = some (.int (1 : Int32)) ∧ L = [] ∧ h = h0) 0 0 := by
  refine enter (plainFor_of_name pn_1) ?_
  intro p e s m below meth c s₁ hnm hret hlk D0
  rw [ef_cCEc m ch]
  refine g_iloadN D0 1 d_jdk_43m3_0 rfl rfl ?_
  refine g_sipush D0 4 (255 : Int32) d_jdk_43m3_1 rfl rfl ?_
  refine g_icmpN D0 7 d_jdk_43m3_4 (flt hq.2).2.2.1 rfl ?_
  refine g_iconst D0 8 (1 : Int32) d_jdk_43m3_7 rfl rfl ?_
  refine g_goto D0 12 d_jdk_43m3_8 (by decide) (by decide) ?_
  exact r_N D0 hret (by simp) hlk d_jdk_43m3_12 ⟨own_r1, rfl, rfl⟩ (by decide) (by decide)
def Q_cTL (Z : State) (ch : Int32) (h0 : Heap) (n0 : Nat) : Option Value → Heap → List Loc → Prop := (fun v h L => ∃ a k, v = some (.ref a) ∧ h0.size ≤ a ∧ Fr n0 L ∧ Ext h0 h ∧ Arv Z h a k .byte (1 : Int32) [(.int (StrChars.lo8 ch))] (.int (0 : Int32)))
theorem cTL (l : Launch) (Z : State) (a0 : Array Value) (hw : tHW Z a0) (ws : List Jvm.Cond) (ch : Int32) (h0 : Heap) (n0 : Nat) (Z0 : n0 ≤ h0.size)  :
    Con l (⟨"java/lang/StringLatin1", "toBytes", "(C)[B"⟩ : MethodName) jdk_43_method_46_code 1 (some (.array .byte)) ws ({ frames := 0, cells := 1, slots := 1, locals := 0 } : Room) Z #[(.int ch)] h0 (Q_cTL Z ch h0 n0) 1 1 := by
  refine enter (plainFor_of_name pn_1) ?_
  intro p e s m below meth c s₁ hnm hret hlk D0
  rw [ef_cTL m ch]
  refine g_iconst D0 1 (1 : Int32) d_jdk_43m46_0 rfl rfl ?_
  refine g_newP D0 3 (aty := .byte) (hw _ w_18) d_jdk_43m46_1 (by decide) (cap := 1) (by decide) (by decide) (by decide) (by decide) (fun _ _ => trivial) rfl ?_
  intro T183 h183 a183 k183 g183 E183 V183 D183
  have V183' : Arv Z h183 a183 k183 .byte (1 : Int32) [(.int (0 : Int32))] (.int (0 : Int32)) := V183.pad (pad_rep [] (.int (0 : Int32)) 1)
  refine g_dup D183 4 d_jdk_43m46_3 rfl rfl ?_
  refine g_iconst D183 5 (0 : Int32) d_jdk_43m46_4 rfl rfl ?_
  refine g_iloadN D183 6 d_jdk_43m46_5 rfl rfl ?_
  refine g_i2b D183 7 d_jdk_43m46_6 rfl ?_
  refine g_bastore D183 8 V183' ⟨by decide, by decide⟩ 0 (by decide) (Nat.le_of_ble_eq_true rfl) (fun _ _ => trivial) d_jdk_43m46_7 rfl ?_
  intro T184 h184 W184 V184 D184
  rw [nb_b ch] at V184
  replace V184 : Arv Z h184 a183 k183 .byte (1 : Int32) [(.int (StrChars.lo8 ch))] (.int (0 : Int32)) := V184
  have N184 := Fr.snoc D184.st (Fr.nil n0) (Nat.le_trans Z0 (Nat.le_of_eq g183.symm))
  exact r_A D184 hret rfl rfl hlk d_jdk_43m46_8 ⟨a183, _, rfl, (Nat.le_trans (Nat.le_refl _) (Nat.le_of_eq g183.symm)), N184, Keep.toExt (((Keep.refl _ []).ext E183).wr W184 (Or.inr (Nat.le_trans (Nat.le_refl _) (Nat.le_of_eq g183.symm)))), V184⟩ (by decide) (by decide)
def Q_cVal (Z : State) (ch zc : Int32) (h0 : Heap) (n0 : Nat) : Option Value → Heap → List Loc → Prop := (fun v h L => ∃ a, v = some (.ref a) ∧ Fr n0 L ∧ Ext h0 h ∧ LS Z h a [ch])
theorem cVal (l : Launch) (Z : State) (a0 : Array Value) (hw : tHW Z a0) (ws : List Jvm.Cond) (ch zc : Int32) (h0 : Heap) (n0 : Nat) (Z0 : n0 ≤ h0.size) (OLD : Old Z n0 h0) (CS : tCS Z zc) (hzc : ¬ zc = 0) (hq : B8 ch) :
    Con l (⟨"java/lang/String", "valueOf", "(C)Ljava/lang/String;"⟩ : MethodName) jdk_42_method_139_code 1 (some (.object "java/lang/String")) ws ({ frames := 2, cells := 2, slots := 5, locals := 28 } : Room) Z #[(.int ch)] h0 (Q_cVal Z ch zc h0 n0) 2 5 := by
  refine enter (plainFor_of_name pn_0) ?_
  intro p e s m below meth c s₁ hnm hret hlk D0
  rw [ef_cVal m ch]
  refine g_getS D0 3 (hw _ w_8) Via.refl (CS.ext OLD.2) d_jdk_42m139_0 rfl ?_
  intro T185 D185
  refine g_ifN D185 6 d_jdk_42m139_3 (feq hzc).1 rfl ?_
  refine g_iloadN D185 7 d_jdk_42m139_6 rfl rfl ?_
  refine g_callSp D185 10 (hw _ w_9) (hw _ w_10) (hw _ w_11) (hw _ w_12) (by decide) ((cCEc l Z a0 hw [] ch h0 n0 Z0 hq).back D185 0 (hw _ w_12) (hw _ w_11) (by decide) (by decide)) rfl [(.int ch)] rfl (lenOf pd_16 rfl) rfl (Nat.le_of_eq rfl) (by decide) (by decide) d_jdk_42m139_7 rfl ?_
  intro v186 T186 q186 D186
  subst q186
  show Go p e below _ (T186.setTop (mkF m 10 #[.val (.int ch)] [(.int (1 : Int32))]))
  refine g_ifN D186 13 d_jdk_42m139_10 (by decide) rfl ?_
  refine g_newO D186 16 (hw _ w_13) (hw _ w_14) (hw _ w_6) d_jdk_42m139_13 (by decide) (by decide) (fun _ _ => trivial) rfl ?_
  intro T187 h187 a187 g187 E187 A187 N187 D187
  refine g_dup D187 17 d_jdk_42m139_16 rfl rfl ?_
  refine g_iloadN D187 18 d_jdk_42m139_17 rfl rfl ?_
  refine g_callS D187 21 (hw _ w_15) (hw _ w_16) (hw _ w_11) (hw _ w_17) (by decide) ((cTL l Z a0 hw [] ch h187 n0 (Nat.le_trans Z0 E187.1)).back D187 2 (hw _ w_17) (hw _ w_11) (by decide) (by decide)) rfl [(.int ch)] rfl (lenOf pd_17 rfl) rfl (Nat.le_of_eq rfl) (by decide) (by decide) (fun _ _ _ _ => trivial) d_jdk_42m139_18 rfl ?_
  intro v188 T188 h188 L188 q188 D188
  obtain ⟨t188, k188, rfl, g188, N188, E188, V188⟩ := q188
  have NF188 := Fr.app (Fr.nil n0) N188
  show Go p e below _ (T188.setTop (mkF m 21 #[.val (.int ch)] [(.ref t188), (.ref a187), (.ref a187)]))
  refine g_iconst D188 22 (0 : Int32) d_jdk_42m139_21 rfl rfl ?_
  refine g_callN D188 25 rfl (hw _ w_19) (hw _ w_20) (hw _ w_22) (by decide) ((cBB l Z a0 hw [] a187 t188 h188 n0 (Nat.le_trans (Nat.le_trans Z0 E187.1) E188.1) (A187.ext E188) ((N187 (Or.inr (hw _ w_27)) (ty := (.array .byte)) (by decide)).ext E188) ((N187 (Or.inr (hw _ w_29)) (ty := .byte) (by decide)).ext E188) (Nat.le_trans Z0 (Nat.le_of_eq g187.symm))).back D188 1 (hw _ w_22) (hw _ w_6) (by decide) (by decide)) rfl [(.ref t188), (.int (0 : Int32))] rfl (lenOf pd_7 rfl) rfl (Nat.le_of_eq rfl) (by decide) (by decide) (fun _ _ _ _ => trivial) d_jdk_42m139_22 rfl ?_
  intro v189 T189 h189 L189 q189 D189
  obtain ⟨rfl, N189, K189, A189, C189, F189⟩ := q189
  have NF189 := Fr.app NF188 N189
  show Go p e below _ (T189.setTop (mkF m 25 #[.val (.int ch)] [(.ref a187)]))
  exact r_A D189 hret rfl rfl hlk d_jdk_42m139_25 ⟨a187, rfl, NF189, Keep.toExt ((((Keep.refl _ []).ext E187).ext E188).trans K189 (allS (Or.inr (Nat.le_trans (Nat.le_refl _) (Nat.le_of_eq g187.symm))) all0)), t188, k188, A189, C189, F189, (V188.keep K189 (ninS (Ne.symm (Nat.ne_of_lt (Nat.lt_of_lt_of_le A187.lt g188))) nin0)), b8_cons hq b8_nil, Nat.le_of_ble_eq_true rfl⟩ (by decide) (by decide)
theorem cLe (l : Launch) (Z : State) (a0 : Array Value) (hw : tHW Z a0) (ws : List Jvm.Cond) (i : Int32) (h0 : Heap) (n0 : Nat) (Z0 : n0 ≤ h0.size)  :
    Con l (⟨"com/example/same_answer/sameanswer/MediaTypeParameterPinLaw", "letter", "(I)C"⟩ : MethodName) method_4_code 1 (some .char) ws ({ frames := 0, cells := 0, slots := 0, locals := 0 } : Room) Z #[(.int i)] h0 (fun v h L => v = some (.int (own_let i)) ∧ L = [] ∧ h = h0) 0 0 := by
  refine enter (plainFor_of_name pn_5) ?_
  intro p e s m below meth c s₁ hnm hret hlk D0
  rw [ef_cLe m i]
  refine g_iloadN D0 1 d_method_4_0 rfl rfl ?_
  by_cases z0 : i = (0 : Int32)
  · refine g_ifN D0 4 d_method_4_1 (teq z0).2 rfl ?_
    refine g_bipush D0 6 (97 : Int32) d_method_4_4 rfl rfl ?_
    exact r_N D0 hret (by simp) hlk d_method_4_6 ⟨congrArg (fun z => some (Value.int z)) ((by decide : nar .char (97 : Int32) = (97 : Int32)).trans (by rw [own_let, if_pos z0])), rfl, rfl⟩ (by decide) (by decide)
  refine g_ifY D0 7 d_method_4_1 (feq z0).2 (by decide) (by decide) ?_
  refine g_iloadN D0 8 d_method_4_7 rfl rfl ?_
  refine g_iconst D0 9 (1 : Int32) d_method_4_8 rfl rfl ?_
  by_cases z1 : i = (1 : Int32)
  · refine g_icmpN D0 12 d_method_4_9 (teq z1).2 rfl ?_
    refine g_bipush D0 14 (65 : Int32) d_method_4_12 rfl rfl ?_
    exact r_N D0 hret (by simp) hlk d_method_4_14 ⟨congrArg (fun z => some (Value.int z)) ((by decide : nar .char (65 : Int32) = (65 : Int32)).trans (by rw [own_let, if_neg z0, if_pos z1])), rfl, rfl⟩ (by decide) (by decide)
  refine g_icmpY D0 15 d_method_4_9 (feq z1).2 (by decide) (by decide) ?_
  refine g_iloadN D0 16 d_method_4_15 rfl rfl ?_
  refine g_iconst D0 17 (2 : Int32) d_method_4_16 rfl rfl ?_
  by_cases z2 : i = (2 : Int32)
  · refine g_icmpN D0 20 d_method_4_17 (teq z2).2 rfl ?_
    refine g_bipush D0 22 (98 : Int32) d_method_4_20 rfl rfl ?_
    exact r_N D0 hret (by simp) hlk d_method_4_22 ⟨congrArg (fun z => some (Value.int z)) ((by decide : nar .char (98 : Int32) = (98 : Int32)).trans (by rw [own_let, if_neg z0, if_neg z1, if_pos z2])), rfl, rfl⟩ (by decide) (by decide)
  refine g_icmpY D0 23 d_method_4_17 (feq z2).2 (by decide) (by decide) ?_
  refine g_bipush D0 25 (66 : Int32) d_method_4_23 rfl rfl ?_
  exact r_N D0 hret (by simp) hlk d_method_4_25 ⟨congrArg (fun z => some (Value.int z)) ((by decide : nar .char (66 : Int32) = (66 : Int32)).trans (by rw [own_let, if_neg z0, if_neg z1, if_neg z2])), rfl, rfl⟩ (by decide) (by decide)
theorem cCh (l : Launch) (Z : State) (a0 : Array Value) (hw : tHW Z a0) (ws : List Jvm.Cond) (pj : Int64) (i : Int32) (h0 : Heap) (n0 : Nat) (Z0 : n0 ≤ h0.size)  :
    Con l (⟨"com/example/same_answer/sameanswer/MediaTypeParameterPinLaw", "ch", "(JI)C"⟩ : MethodName) method_3_code 3 (some .char) ws ({ frames := 0, cells := 0, slots := 0, locals := 0 } : Room) Z #[(.long pj), (.int i)] h0 (fun v h L => (∃ r, v = some (.int r) ∧ B8 r) ∧ L = [] ∧ h = h0) 0 0 := by
  refine enter (plainFor_of_name pn_5) ?_
  intro p e s m below meth c s₁ hnm hret hlk D0
  rw [ef_cCh m pj i]
  refine g_lloadN D0 1 d_method_3_0 rfl rfl ?_
  refine g_bipush D0 3 (8 : Int32) d_method_3_1 rfl rfl ?_
  refine g_iloadN D0 4 d_method_3_3 rfl rfl ?_
  refine g_imul D0 5 d_method_3_4 rfl ?_
  refine g_lushr D0 6 d_method_3_5 rfl ?_
  refine g_ldc2J D0 9 (hw _ w_33) d_method_3_6 rfl ?_
  refine g_land D0 10 d_method_3_9 rfl ?_
  refine g_l2i D0 11 d_method_3_10 rfl ?_
  refine g_i2c D0 12 d_method_3_11 rfl ?_
  exact r_N D0 hret (by simp) hlk d_method_3_12 ⟨⟨_, rfl, b8_nar (b8_l2c _)⟩, rfl, rfl⟩ (by decide) (by decide)
theorem cSemi (l : Launch) (Z : State) (a0 : Array Value) (hw : tHW Z a0) (ws : List Jvm.Cond) (j : Int32) (h0 : Heap) (n0 : Nat) (Z0 : n0 ≤ h0.size) (hj : B8 j) :
    Con l (⟨"com/example/same_answer/sameanswer/MediaTypeParameterPinLaw", "noSemi", "(C)C"⟩ : MethodName) method_5_code 1 (some .char) ws ({ frames := 0, cells := 0, slots := 0, locals := 0 } : Room) Z #[(.int j)] h0 (fun v h L => (∃ r, v = some (.int r) ∧ B8 r ∧ ¬ r = (59 : Int32) ∧ (True → r = (44 : Int32) ∨ r = j)) ∧ L = [] ∧ h = h0) 0 0 := by
  refine enter (plainFor_of_name pn_5) ?_
  intro p e s m below meth c s₁ hnm hret hlk D0
  rw [ef_cSemi m j]
  refine g_iloadN D0 1 d_method_5_0 rfl rfl ?_
  refine g_bipush D0 3 (59 : Int32) d_method_5_1 rfl rfl ?_
  by_cases z0 : j = (59 : Int32)
  · refine g_icmpN D0 6 d_method_5_3 (teq z0).2 rfl ?_
    refine g_bipush D0 8 (44 : Int32) d_method_5_6 rfl rfl ?_
    refine g_goto D0 12 d_method_5_8 (by decide) (by decide) ?_
    exact r_N D0 hret (by simp) hlk d_method_5_12 ⟨⟨(44 : Int32), (by decide), by decide, by decide, by intro q; exact Or.inl rfl⟩, rfl, rfl⟩ (by decide) (by decide)
  refine g_icmpY D0 11 d_method_5_3 (feq z0).2 (by decide) (by decide) ?_
  refine g_iloadN D0 12 d_method_5_11 rfl rfl ?_
  exact r_N D0 hret (by simp) hlk d_method_5_12 ⟨⟨j, congrArg (fun z => some (Value.int z)) (nar_c hj), hj, z0, fun q => Or.inr rfl⟩, rfl, rfl⟩ (by decide) (by decide)
theorem cQuo (l : Launch) (Z : State) (a0 : Array Value) (hw : tHW Z a0) (ws : List Jvm.Cond) (j : Int32) (h0 : Heap) (n0 : Nat) (Z0 : n0 ≤ h0.size) (hj : B8 j) :
    Con l (⟨"com/example/same_answer/sameanswer/MediaTypeParameterPinLaw", "noQuote", "(C)C"⟩ : MethodName) method_6_code 1 (some .char) ws ({ frames := 0, cells := 0, slots := 0, locals := 0 } : Room) Z #[(.int j)] h0 (fun v h L => (∃ r, v = some (.int r) ∧ B8 r ∧ ¬ r = (34 : Int32) ∧ (True → r = (92 : Int32) ∨ r = j)) ∧ L = [] ∧ h = h0) 0 0 := by
  refine enter (plainFor_of_name pn_5) ?_
  intro p e s m below meth c s₁ hnm hret hlk D0
  rw [ef_cQuo m j]
  refine g_iloadN D0 1 d_method_6_0 rfl rfl ?_
  refine g_bipush D0 3 (34 : Int32) d_method_6_1 rfl rfl ?_
  by_cases z0 : j = (34 : Int32)
  · refine g_icmpN D0 6 d_method_6_3 (teq z0).2 rfl ?_
    refine g_bipush D0 8 (92 : Int32) d_method_6_6 rfl rfl ?_
    refine g_goto D0 12 d_method_6_8 (by decide) (by decide) ?_
    exact r_N D0 hret (by simp) hlk d_method_6_12 ⟨⟨(92 : Int32), (by decide), by decide, by decide, by intro q; exact Or.inl rfl⟩, rfl, rfl⟩ (by decide) (by decide)
  refine g_icmpY D0 11 d_method_6_3 (feq z0).2 (by decide) (by decide) ?_
  refine g_iloadN D0 12 d_method_6_11 rfl rfl ?_
  exact r_N D0 hret (by simp) hlk d_method_6_12 ⟨⟨j, congrArg (fun z => some (Value.int z)) (nar_c hj), hj, z0, fun q => Or.inr rfl⟩, rfl, rfl⟩ (by decide) (by decide)
theorem cSame (l : Launch) (Z : State) (a0 : Array Value) (hw : tHW Z a0) (ws : List Jvm.Cond) (x q : Addr) (kq : ClassId) (fs : List Value) (cs : List Int32) (a n : Nat) (zc : Int32) (fm : Value) (h0 : Heap) (n0 : Nat) (Z0 : n0 ≤ h0.size) (OLD : Old Z n0 h0) (CS : tCS Z zc) (hzc : ¬ zc = 0) (SFm : tSF Z fm) (rfm : fm.isRef = true) (X_x : LS Z h0 x cs) (hn : cs.length = n) (h4 : n ≤ 4) (V_q : Arv Z h0 q kq .char (18 : Int32) fs (.int (0 : Int32))) (ha : a + n ≤ 18) (hq : ∀ i, i < n → fs.getD (a + i) (.int (0 : Int32)) = .int (cs.getD i 0)) :
    Con l (⟨"com/example/same_answer/sameanswer/MediaTypeParameterPinLaw", "same", "(Ljava/lang/String;[CII)Z"⟩ : MethodName) method_10_code 5 (some .boolean) ws ({ frames := 4, cells := 0, slots := 0, locals := 60 } : Room) Z #[(.ref x), (.ref q), (.int (Int32.ofNat a)), (.int (Int32.ofNat (a + n)))] h0 (fun v h L => v = some (.int (1 : Int32)) ∧ L = [] ∧ h = h0) 0 0 := by
  refine enter (plainFor_of_name pn_5) ?_
  intro p e s m below meth c s₁ hnm hret hlk D0
  rw [ef_cSame m x q (Int32.ofNat a) (Int32.ofNat (a + n))]
  have hn5 : n = 0 ∨ n = 1 ∨ n = 2 ∨ n = 3 ∨ n = 4 := by omega
  rcases hn5 with rfl | rfl | rfl | rfl | rfl
  · obtain ⟨t, kt, x1, x2, x3, x4, x5, x6⟩ := (id X_x)
    refine g_iloadN D0 1 d_method_10_0 rfl rfl ?_
    refine g_iloadN D0 2 d_method_10_1 rfl rfl ?_
    refine g_isub D0 3 d_method_10_2 rfl ?_
    rw [own_subN (Nat.le_add_right a 0), Nat.add_sub_cancel_left]
    show Go p e below _ (s₁.setTop (mkF m 3 #[.val (.ref x), .val (.ref q), .val (.int (Int32.ofNat a)), .val (.int (Int32.ofNat (a + 0))), .unset] [(.int (0 : Int32))]))
    refine g_istore D0 5 #[.val (.ref x), .val (.ref q), .val (.int (Int32.ofNat a)), .val (.int (Int32.ofNat (a + 0))), .val (.int (0 : Int32))] d_method_10_3 rfl rfl ?_
    refine g_aloadN D0 6 d_method_10_5 rfl rfl rfl ?_
    refine g_nullN D0 9 d_method_10_6 rfl ?_
    refine g_aloadN D0 10 d_method_10_9 rfl rfl rfl ?_
    refine g_callVp D0 13 (hw _ w_181) (hw _ w_78) (notFace_of_selects (args := #[]) (mvT D0.wm (hw _ w_80))) (hw _ w_80) (hw _ w_79) (by decide) (TS.lenB 0 D0 hw (LS.ts X_x) (CS.ext OLD.2) hzc (by decide) (by decide)) x1 rfl [] rfl (lenOf pd_4 rfl) rfl (Nat.le_of_eq rfl) (by decide) (by decide) d_method_10_10 rfl ?_
    intro v190 T190 q190 D190
    subst q190
    rw [hn]
    show Go p e below _ (T190.setTop (mkF m 13 #[.val (.ref x), .val (.ref q), .val (.int (Int32.ofNat a)), .val (.int (Int32.ofNat (a + 0))), .val (.int (0 : Int32))] [(.int (0 : Int32))]))
    refine g_iload D190 15 d_method_10_13 rfl rfl ?_
    refine g_icmpY D190 20 d_method_10_15 (by decide) (by decide) (by decide) ?_
    refine g_iload D190 22 d_method_10_20 rfl rfl ?_
    refine g_ifY D190 38 d_method_10_22 (by decide) (by decide) (by decide) ?_
    refine g_iload D190 40 d_method_10_38 rfl rfl ?_
    refine g_iconst D190 41 (1 : Int32) d_method_10_40 rfl rfl ?_
    refine g_icmpY D190 59 d_method_10_41 (by decide) (by decide) (by decide) ?_
    refine g_iload D190 61 d_method_10_59 rfl rfl ?_
    refine g_iconst D190 62 (2 : Int32) d_method_10_61 rfl rfl ?_
    refine g_icmpY D190 80 d_method_10_62 (by decide) (by decide) (by decide) ?_
    refine g_iload D190 82 d_method_10_80 rfl rfl ?_
    refine g_iconst D190 83 (3 : Int32) d_method_10_82 rfl rfl ?_
    refine g_icmpY D190 101 d_method_10_83 (by decide) (by decide) (by decide) ?_
    refine g_iconst D190 102 (1 : Int32) d_method_10_101 rfl rfl ?_
    exact r_N D190 hret (by simp) hlk d_method_10_102 ⟨own_r1, rfl, rfl⟩ (by decide) (by decide)
  · obtain ⟨t, kt, x1, x2, x3, x4, x5, x6⟩ := (id X_x)
    refine g_iloadN D0 1 d_method_10_0 rfl rfl ?_
    refine g_iloadN D0 2 d_method_10_1 rfl rfl ?_
    refine g_isub D0 3 d_method_10_2 rfl ?_
    rw [own_subN (Nat.le_add_right a 1), Nat.add_sub_cancel_left]
    show Go p e below _ (s₁.setTop (mkF m 3 #[.val (.ref x), .val (.ref q), .val (.int (Int32.ofNat a)), .val (.int (Int32.ofNat (a + 1))), .unset] [(.int (1 : Int32))]))
    refine g_istore D0 5 #[.val (.ref x), .val (.ref q), .val (.int (Int32.ofNat a)), .val (.int (Int32.ofNat (a + 1))), .val (.int (1 : Int32))] d_method_10_3 rfl rfl ?_
    refine g_aloadN D0 6 d_method_10_5 rfl rfl rfl ?_
    refine g_nullN D0 9 d_method_10_6 rfl ?_
    refine g_aloadN D0 10 d_method_10_9 rfl rfl rfl ?_
    refine g_callVp D0 13 (hw _ w_181) (hw _ w_78) (notFace_of_selects (args := #[]) (mvT D0.wm (hw _ w_80))) (hw _ w_80) (hw _ w_79) (by decide) (TS.lenB 0 D0 hw (LS.ts X_x) (CS.ext OLD.2) hzc (by decide) (by decide)) x1 rfl [] rfl (lenOf pd_4 rfl) rfl (Nat.le_of_eq rfl) (by decide) (by decide) d_method_10_10 rfl ?_
    intro v191 T191 q191 D191
    subst q191
    rw [hn]
    show Go p e below _ (T191.setTop (mkF m 13 #[.val (.ref x), .val (.ref q), .val (.int (Int32.ofNat a)), .val (.int (Int32.ofNat (a + 1))), .val (.int (1 : Int32))] [(.int (1 : Int32))]))
    refine g_iload D191 15 d_method_10_13 rfl rfl ?_
    refine g_icmpY D191 20 d_method_10_15 (by decide) (by decide) (by decide) ?_
    refine g_iload D191 22 d_method_10_20 rfl rfl ?_
    refine g_ifN D191 25 d_method_10_22 (by decide) rfl ?_
    refine g_aloadN D191 26 d_method_10_25 rfl rfl rfl ?_
    refine g_iconst D191 27 (0 : Int32) d_method_10_26 rfl rfl ?_
    refine g_callVp D191 30 (hw _ w_182) (hw _ w_148) (notFace_of_selects (args := #[]) (mvT D191.wm (hw _ w_150))) (hw _ w_150) (hw _ w_149) (by decide) (StrChars.Road.chN (W := 0) D191.wm (fun d hd => hw d (wchn d hd)) (kI := 4) (hw _ w_14) (i := 0) x1 x3 x2 x4 (StrChars.Road.codOf rfl (fun c hc => (x5 c hc).2)) (up255 x5) (CS.ext OLD.2) hzc (SFm.ext OLD.2) rfm x6 (by omega) rfl (by decide) (by decide)) x1 rfl [(.int (0 : Int32))] rfl (lenOf pd_18 rfl) rfl (Nat.le_of_eq rfl) (by decide) (by decide) d_method_10_27 rfl ?_
    intro v192 T192 q192 D192
    subst q192
    show Go p e below _ (T192.setTop (mkF m 30 #[.val (.ref x), .val (.ref q), .val (.int (Int32.ofNat a)), .val (.int (Int32.ofNat (a + 1))), .val (.int (1 : Int32))] [(.int (cs.getD 0 0))]))
    refine g_aloadN D192 31 d_method_10_30 rfl rfl rfl ?_
    refine g_iloadN D192 32 d_method_10_31 rfl rfl ?_
    show Go p e below _ (T192.setTop (mkF m 32 #[.val (.ref x), .val (.ref q), .val (.int (Int32.ofNat a)), .val (.int (Int32.ofNat (a + 1))), .val (.int (1 : Int32))] [(.int (Int32.ofNat (a + 0))), (.ref q), (.int (cs.getD 0 0))]))
    refine g_caload D192 33 V_q (v := (.int (cs.getD 0 0))) ⟨own_nneg (by omega), (own_lt (b := 18) (by omega) (by omega)).mpr (by omega)⟩ (by rw [own_clamp (by omega)]; exact hq 0 (by omega)) d_method_10_32 rfl ?_
    refine g_icmpY D192 38 d_method_10_33 (teq rfl).1 (by decide) (by decide) ?_
    refine g_iload D192 40 d_method_10_38 rfl rfl ?_
    refine g_iconst D192 41 (1 : Int32) d_method_10_40 rfl rfl ?_
    refine g_icmpY D192 59 d_method_10_41 (by decide) (by decide) (by decide) ?_
    refine g_iload D192 61 d_method_10_59 rfl rfl ?_
    refine g_iconst D192 62 (2 : Int32) d_method_10_61 rfl rfl ?_
    refine g_icmpY D192 80 d_method_10_62 (by decide) (by decide) (by decide) ?_
    refine g_iload D192 82 d_method_10_80 rfl rfl ?_
    refine g_iconst D192 83 (3 : Int32) d_method_10_82 rfl rfl ?_
    refine g_icmpY D192 101 d_method_10_83 (by decide) (by decide) (by decide) ?_
    refine g_iconst D192 102 (1 : Int32) d_method_10_101 rfl rfl ?_
    exact r_N D192 hret (by simp) hlk d_method_10_102 ⟨own_r1, rfl, rfl⟩ (by decide) (by decide)
  · obtain ⟨t, kt, x1, x2, x3, x4, x5, x6⟩ := (id X_x)
    refine g_iloadN D0 1 d_method_10_0 rfl rfl ?_
    refine g_iloadN D0 2 d_method_10_1 rfl rfl ?_
    refine g_isub D0 3 d_method_10_2 rfl ?_
    rw [own_subN (Nat.le_add_right a 2), Nat.add_sub_cancel_left]
    show Go p e below _ (s₁.setTop (mkF m 3 #[.val (.ref x), .val (.ref q), .val (.int (Int32.ofNat a)), .val (.int (Int32.ofNat (a + 2))), .unset] [(.int (2 : Int32))]))
    refine g_istore D0 5 #[.val (.ref x), .val (.ref q), .val (.int (Int32.ofNat a)), .val (.int (Int32.ofNat (a + 2))), .val (.int (2 : Int32))] d_method_10_3 rfl rfl ?_
    refine g_aloadN D0 6 d_method_10_5 rfl rfl rfl ?_
    refine g_nullN D0 9 d_method_10_6 rfl ?_
    refine g_aloadN D0 10 d_method_10_9 rfl rfl rfl ?_
    refine g_callVp D0 13 (hw _ w_181) (hw _ w_78) (notFace_of_selects (args := #[]) (mvT D0.wm (hw _ w_80))) (hw _ w_80) (hw _ w_79) (by decide) (TS.lenB 0 D0 hw (LS.ts X_x) (CS.ext OLD.2) hzc (by decide) (by decide)) x1 rfl [] rfl (lenOf pd_4 rfl) rfl (Nat.le_of_eq rfl) (by decide) (by decide) d_method_10_10 rfl ?_
    intro v193 T193 q193 D193
    subst q193
    rw [hn]
    show Go p e below _ (T193.setTop (mkF m 13 #[.val (.ref x), .val (.ref q), .val (.int (Int32.ofNat a)), .val (.int (Int32.ofNat (a + 2))), .val (.int (2 : Int32))] [(.int (2 : Int32))]))
    refine g_iload D193 15 d_method_10_13 rfl rfl ?_
    refine g_icmpY D193 20 d_method_10_15 (by decide) (by decide) (by decide) ?_
    refine g_iload D193 22 d_method_10_20 rfl rfl ?_
    refine g_ifN D193 25 d_method_10_22 (by decide) rfl ?_
    refine g_aloadN D193 26 d_method_10_25 rfl rfl rfl ?_
    refine g_iconst D193 27 (0 : Int32) d_method_10_26 rfl rfl ?_
    refine g_callVp D193 30 (hw _ w_182) (hw _ w_148) (notFace_of_selects (args := #[]) (mvT D193.wm (hw _ w_150))) (hw _ w_150) (hw _ w_149) (by decide) (StrChars.Road.chN (W := 0) D193.wm (fun d hd => hw d (wchn d hd)) (kI := 4) (hw _ w_14) (i := 0) x1 x3 x2 x4 (StrChars.Road.codOf rfl (fun c hc => (x5 c hc).2)) (up255 x5) (CS.ext OLD.2) hzc (SFm.ext OLD.2) rfm x6 (by omega) rfl (by decide) (by decide)) x1 rfl [(.int (0 : Int32))] rfl (lenOf pd_18 rfl) rfl (Nat.le_of_eq rfl) (by decide) (by decide) d_method_10_27 rfl ?_
    intro v194 T194 q194 D194
    subst q194
    show Go p e below _ (T194.setTop (mkF m 30 #[.val (.ref x), .val (.ref q), .val (.int (Int32.ofNat a)), .val (.int (Int32.ofNat (a + 2))), .val (.int (2 : Int32))] [(.int (cs.getD 0 0))]))
    refine g_aloadN D194 31 d_method_10_30 rfl rfl rfl ?_
    refine g_iloadN D194 32 d_method_10_31 rfl rfl ?_
    show Go p e below _ (T194.setTop (mkF m 32 #[.val (.ref x), .val (.ref q), .val (.int (Int32.ofNat a)), .val (.int (Int32.ofNat (a + 2))), .val (.int (2 : Int32))] [(.int (Int32.ofNat (a + 0))), (.ref q), (.int (cs.getD 0 0))]))
    refine g_caload D194 33 V_q (v := (.int (cs.getD 0 0))) ⟨own_nneg (by omega), (own_lt (b := 18) (by omega) (by omega)).mpr (by omega)⟩ (by rw [own_clamp (by omega)]; exact hq 0 (by omega)) d_method_10_32 rfl ?_
    refine g_icmpY D194 38 d_method_10_33 (teq rfl).1 (by decide) (by decide) ?_
    refine g_iload D194 40 d_method_10_38 rfl rfl ?_
    refine g_iconst D194 41 (1 : Int32) d_method_10_40 rfl rfl ?_
    refine g_icmpN D194 44 d_method_10_41 (by decide) rfl ?_
    refine g_aloadN D194 45 d_method_10_44 rfl rfl rfl ?_
    refine g_iconst D194 46 (1 : Int32) d_method_10_45 rfl rfl ?_
    refine g_callVp D194 49 (hw _ w_182) (hw _ w_148) (notFace_of_selects (args := #[]) (mvT D194.wm (hw _ w_150))) (hw _ w_150) (hw _ w_149) (by decide) (StrChars.Road.chN (W := 0) D194.wm (fun d hd => hw d (wchn d hd)) (kI := 4) (hw _ w_14) (i := 1) x1 x3 x2 x4 (StrChars.Road.codOf rfl (fun c hc => (x5 c hc).2)) (up255 x5) (CS.ext OLD.2) hzc (SFm.ext OLD.2) rfm x6 (by omega) rfl (by decide) (by decide)) x1 rfl [(.int (1 : Int32))] rfl (lenOf pd_18 rfl) rfl (Nat.le_of_eq rfl) (by decide) (by decide) d_method_10_46 rfl ?_
    intro v195 T195 q195 D195
    subst q195
    show Go p e below _ (T195.setTop (mkF m 49 #[.val (.ref x), .val (.ref q), .val (.int (Int32.ofNat a)), .val (.int (Int32.ofNat (a + 2))), .val (.int (2 : Int32))] [(.int (cs.getD 1 0))]))
    refine g_aloadN D195 50 d_method_10_49 rfl rfl rfl ?_
    refine g_iloadN D195 51 d_method_10_50 rfl rfl ?_
    refine g_iconst D195 52 (1 : Int32) d_method_10_51 rfl rfl ?_
    refine g_iadd D195 53 d_method_10_52 rfl ?_
    rw [own_ofadd1]
    show Go p e below _ (T195.setTop (mkF m 53 #[.val (.ref x), .val (.ref q), .val (.int (Int32.ofNat a)), .val (.int (Int32.ofNat (a + 2))), .val (.int (2 : Int32))] [(.int (Int32.ofNat (a + 1))), (.ref q), (.int (cs.getD 1 0))]))
    refine g_caload D195 54 V_q (v := (.int (cs.getD 1 0))) ⟨own_nneg (by omega), (own_lt (b := 18) (by omega) (by omega)).mpr (by omega)⟩ (by rw [own_clamp (by omega)]; exact hq 1 (by omega)) d_method_10_53 rfl ?_
    refine g_icmpY D195 59 d_method_10_54 (teq rfl).1 (by decide) (by decide) ?_
    refine g_iload D195 61 d_method_10_59 rfl rfl ?_
    refine g_iconst D195 62 (2 : Int32) d_method_10_61 rfl rfl ?_
    refine g_icmpY D195 80 d_method_10_62 (by decide) (by decide) (by decide) ?_
    refine g_iload D195 82 d_method_10_80 rfl rfl ?_
    refine g_iconst D195 83 (3 : Int32) d_method_10_82 rfl rfl ?_
    refine g_icmpY D195 101 d_method_10_83 (by decide) (by decide) (by decide) ?_
    refine g_iconst D195 102 (1 : Int32) d_method_10_101 rfl rfl ?_
    exact r_N D195 hret (by simp) hlk d_method_10_102 ⟨own_r1, rfl, rfl⟩ (by decide) (by decide)
  · obtain ⟨t, kt, x1, x2, x3, x4, x5, x6⟩ := (id X_x)
    refine g_iloadN D0 1 d_method_10_0 rfl rfl ?_
    refine g_iloadN D0 2 d_method_10_1 rfl rfl ?_
    refine g_isub D0 3 d_method_10_2 rfl ?_
    rw [own_subN (Nat.le_add_right a 3), Nat.add_sub_cancel_left]
    show Go p e below _ (s₁.setTop (mkF m 3 #[.val (.ref x), .val (.ref q), .val (.int (Int32.ofNat a)), .val (.int (Int32.ofNat (a + 3))), .unset] [(.int (3 : Int32))]))
    refine g_istore D0 5 #[.val (.ref x), .val (.ref q), .val (.int (Int32.ofNat a)), .val (.int (Int32.ofNat (a + 3))), .val (.int (3 : Int32))] d_method_10_3 rfl rfl ?_
    refine g_aloadN D0 6 d_method_10_5 rfl rfl rfl ?_
    refine g_nullN D0 9 d_method_10_6 rfl ?_
    refine g_aloadN D0 10 d_method_10_9 rfl rfl rfl ?_
    refine g_callVp D0 13 (hw _ w_181) (hw _ w_78) (notFace_of_selects (args := #[]) (mvT D0.wm (hw _ w_80))) (hw _ w_80) (hw _ w_79) (by decide) (TS.lenB 0 D0 hw (LS.ts X_x) (CS.ext OLD.2) hzc (by decide) (by decide)) x1 rfl [] rfl (lenOf pd_4 rfl) rfl (Nat.le_of_eq rfl) (by decide) (by decide) d_method_10_10 rfl ?_
    intro v196 T196 q196 D196
    subst q196
    rw [hn]
    show Go p e below _ (T196.setTop (mkF m 13 #[.val (.ref x), .val (.ref q), .val (.int (Int32.ofNat a)), .val (.int (Int32.ofNat (a + 3))), .val (.int (3 : Int32))] [(.int (3 : Int32))]))
    refine g_iload D196 15 d_method_10_13 rfl rfl ?_
    refine g_icmpY D196 20 d_method_10_15 (by decide) (by decide) (by decide) ?_
    refine g_iload D196 22 d_method_10_20 rfl rfl ?_
    refine g_ifN D196 25 d_method_10_22 (by decide) rfl ?_
    refine g_aloadN D196 26 d_method_10_25 rfl rfl rfl ?_
    refine g_iconst D196 27 (0 : Int32) d_method_10_26 rfl rfl ?_
    refine g_callVp D196 30 (hw _ w_182) (hw _ w_148) (notFace_of_selects (args := #[]) (mvT D196.wm (hw _ w_150))) (hw _ w_150) (hw _ w_149) (by decide) (StrChars.Road.chN (W := 0) D196.wm (fun d hd => hw d (wchn d hd)) (kI := 4) (hw _ w_14) (i := 0) x1 x3 x2 x4 (StrChars.Road.codOf rfl (fun c hc => (x5 c hc).2)) (up255 x5) (CS.ext OLD.2) hzc (SFm.ext OLD.2) rfm x6 (by omega) rfl (by decide) (by decide)) x1 rfl [(.int (0 : Int32))] rfl (lenOf pd_18 rfl) rfl (Nat.le_of_eq rfl) (by decide) (by decide) d_method_10_27 rfl ?_
    intro v197 T197 q197 D197
    subst q197
    show Go p e below _ (T197.setTop (mkF m 30 #[.val (.ref x), .val (.ref q), .val (.int (Int32.ofNat a)), .val (.int (Int32.ofNat (a + 3))), .val (.int (3 : Int32))] [(.int (cs.getD 0 0))]))
    refine g_aloadN D197 31 d_method_10_30 rfl rfl rfl ?_
    refine g_iloadN D197 32 d_method_10_31 rfl rfl ?_
    show Go p e below _ (T197.setTop (mkF m 32 #[.val (.ref x), .val (.ref q), .val (.int (Int32.ofNat a)), .val (.int (Int32.ofNat (a + 3))), .val (.int (3 : Int32))] [(.int (Int32.ofNat (a + 0))), (.ref q), (.int (cs.getD 0 0))]))
    refine g_caload D197 33 V_q (v := (.int (cs.getD 0 0))) ⟨own_nneg (by omega), (own_lt (b := 18) (by omega) (by omega)).mpr (by omega)⟩ (by rw [own_clamp (by omega)]; exact hq 0 (by omega)) d_method_10_32 rfl ?_
    refine g_icmpY D197 38 d_method_10_33 (teq rfl).1 (by decide) (by decide) ?_
    refine g_iload D197 40 d_method_10_38 rfl rfl ?_
    refine g_iconst D197 41 (1 : Int32) d_method_10_40 rfl rfl ?_
    refine g_icmpN D197 44 d_method_10_41 (by decide) rfl ?_
    refine g_aloadN D197 45 d_method_10_44 rfl rfl rfl ?_
    refine g_iconst D197 46 (1 : Int32) d_method_10_45 rfl rfl ?_
    refine g_callVp D197 49 (hw _ w_182) (hw _ w_148) (notFace_of_selects (args := #[]) (mvT D197.wm (hw _ w_150))) (hw _ w_150) (hw _ w_149) (by decide) (StrChars.Road.chN (W := 0) D197.wm (fun d hd => hw d (wchn d hd)) (kI := 4) (hw _ w_14) (i := 1) x1 x3 x2 x4 (StrChars.Road.codOf rfl (fun c hc => (x5 c hc).2)) (up255 x5) (CS.ext OLD.2) hzc (SFm.ext OLD.2) rfm x6 (by omega) rfl (by decide) (by decide)) x1 rfl [(.int (1 : Int32))] rfl (lenOf pd_18 rfl) rfl (Nat.le_of_eq rfl) (by decide) (by decide) d_method_10_46 rfl ?_
    intro v198 T198 q198 D198
    subst q198
    show Go p e below _ (T198.setTop (mkF m 49 #[.val (.ref x), .val (.ref q), .val (.int (Int32.ofNat a)), .val (.int (Int32.ofNat (a + 3))), .val (.int (3 : Int32))] [(.int (cs.getD 1 0))]))
    refine g_aloadN D198 50 d_method_10_49 rfl rfl rfl ?_
    refine g_iloadN D198 51 d_method_10_50 rfl rfl ?_
    refine g_iconst D198 52 (1 : Int32) d_method_10_51 rfl rfl ?_
    refine g_iadd D198 53 d_method_10_52 rfl ?_
    rw [own_ofadd1]
    show Go p e below _ (T198.setTop (mkF m 53 #[.val (.ref x), .val (.ref q), .val (.int (Int32.ofNat a)), .val (.int (Int32.ofNat (a + 3))), .val (.int (3 : Int32))] [(.int (Int32.ofNat (a + 1))), (.ref q), (.int (cs.getD 1 0))]))
    refine g_caload D198 54 V_q (v := (.int (cs.getD 1 0))) ⟨own_nneg (by omega), (own_lt (b := 18) (by omega) (by omega)).mpr (by omega)⟩ (by rw [own_clamp (by omega)]; exact hq 1 (by omega)) d_method_10_53 rfl ?_
    refine g_icmpY D198 59 d_method_10_54 (teq rfl).1 (by decide) (by decide) ?_
    refine g_iload D198 61 d_method_10_59 rfl rfl ?_
    refine g_iconst D198 62 (2 : Int32) d_method_10_61 rfl rfl ?_
    refine g_icmpN D198 65 d_method_10_62 (by decide) rfl ?_
    refine g_aloadN D198 66 d_method_10_65 rfl rfl rfl ?_
    refine g_iconst D198 67 (2 : Int32) d_method_10_66 rfl rfl ?_
    refine g_callVp D198 70 (hw _ w_182) (hw _ w_148) (notFace_of_selects (args := #[]) (mvT D198.wm (hw _ w_150))) (hw _ w_150) (hw _ w_149) (by decide) (StrChars.Road.chN (W := 0) D198.wm (fun d hd => hw d (wchn d hd)) (kI := 4) (hw _ w_14) (i := 2) x1 x3 x2 x4 (StrChars.Road.codOf rfl (fun c hc => (x5 c hc).2)) (up255 x5) (CS.ext OLD.2) hzc (SFm.ext OLD.2) rfm x6 (by omega) rfl (by decide) (by decide)) x1 rfl [(.int (2 : Int32))] rfl (lenOf pd_18 rfl) rfl (Nat.le_of_eq rfl) (by decide) (by decide) d_method_10_67 rfl ?_
    intro v199 T199 q199 D199
    subst q199
    show Go p e below _ (T199.setTop (mkF m 70 #[.val (.ref x), .val (.ref q), .val (.int (Int32.ofNat a)), .val (.int (Int32.ofNat (a + 3))), .val (.int (3 : Int32))] [(.int (cs.getD 2 0))]))
    refine g_aloadN D199 71 d_method_10_70 rfl rfl rfl ?_
    refine g_iloadN D199 72 d_method_10_71 rfl rfl ?_
    refine g_iconst D199 73 (2 : Int32) d_method_10_72 rfl rfl ?_
    refine g_iadd D199 74 d_method_10_73 rfl ?_
    rw [own_of2]
    show Go p e below _ (T199.setTop (mkF m 74 #[.val (.ref x), .val (.ref q), .val (.int (Int32.ofNat a)), .val (.int (Int32.ofNat (a + 3))), .val (.int (3 : Int32))] [(.int (Int32.ofNat (a + 2))), (.ref q), (.int (cs.getD 2 0))]))
    refine g_caload D199 75 V_q (v := (.int (cs.getD 2 0))) ⟨own_nneg (by omega), (own_lt (b := 18) (by omega) (by omega)).mpr (by omega)⟩ (by rw [own_clamp (by omega)]; exact hq 2 (by omega)) d_method_10_74 rfl ?_
    refine g_icmpY D199 80 d_method_10_75 (teq rfl).1 (by decide) (by decide) ?_
    refine g_iload D199 82 d_method_10_80 rfl rfl ?_
    refine g_iconst D199 83 (3 : Int32) d_method_10_82 rfl rfl ?_
    refine g_icmpY D199 101 d_method_10_83 (by decide) (by decide) (by decide) ?_
    refine g_iconst D199 102 (1 : Int32) d_method_10_101 rfl rfl ?_
    exact r_N D199 hret (by simp) hlk d_method_10_102 ⟨own_r1, rfl, rfl⟩ (by decide) (by decide)
  · obtain ⟨t, kt, x1, x2, x3, x4, x5, x6⟩ := (id X_x)
    refine g_iloadN D0 1 d_method_10_0 rfl rfl ?_
    refine g_iloadN D0 2 d_method_10_1 rfl rfl ?_
    refine g_isub D0 3 d_method_10_2 rfl ?_
    rw [own_subN (Nat.le_add_right a 4), Nat.add_sub_cancel_left]
    show Go p e below _ (s₁.setTop (mkF m 3 #[.val (.ref x), .val (.ref q), .val (.int (Int32.ofNat a)), .val (.int (Int32.ofNat (a + 4))), .unset] [(.int (4 : Int32))]))
    refine g_istore D0 5 #[.val (.ref x), .val (.ref q), .val (.int (Int32.ofNat a)), .val (.int (Int32.ofNat (a + 4))), .val (.int (4 : Int32))] d_method_10_3 rfl rfl ?_
    refine g_aloadN D0 6 d_method_10_5 rfl rfl rfl ?_
    refine g_nullN D0 9 d_method_10_6 rfl ?_
    refine g_aloadN D0 10 d_method_10_9 rfl rfl rfl ?_
    refine g_callVp D0 13 (hw _ w_181) (hw _ w_78) (notFace_of_selects (args := #[]) (mvT D0.wm (hw _ w_80))) (hw _ w_80) (hw _ w_79) (by decide) (TS.lenB 0 D0 hw (LS.ts X_x) (CS.ext OLD.2) hzc (by decide) (by decide)) x1 rfl [] rfl (lenOf pd_4 rfl) rfl (Nat.le_of_eq rfl) (by decide) (by decide) d_method_10_10 rfl ?_
    intro v200 T200 q200 D200
    subst q200
    rw [hn]
    show Go p e below _ (T200.setTop (mkF m 13 #[.val (.ref x), .val (.ref q), .val (.int (Int32.ofNat a)), .val (.int (Int32.ofNat (a + 4))), .val (.int (4 : Int32))] [(.int (4 : Int32))]))
    refine g_iload D200 15 d_method_10_13 rfl rfl ?_
    refine g_icmpY D200 20 d_method_10_15 (by decide) (by decide) (by decide) ?_
    refine g_iload D200 22 d_method_10_20 rfl rfl ?_
    refine g_ifN D200 25 d_method_10_22 (by decide) rfl ?_
    refine g_aloadN D200 26 d_method_10_25 rfl rfl rfl ?_
    refine g_iconst D200 27 (0 : Int32) d_method_10_26 rfl rfl ?_
    refine g_callVp D200 30 (hw _ w_182) (hw _ w_148) (notFace_of_selects (args := #[]) (mvT D200.wm (hw _ w_150))) (hw _ w_150) (hw _ w_149) (by decide) (StrChars.Road.chN (W := 0) D200.wm (fun d hd => hw d (wchn d hd)) (kI := 4) (hw _ w_14) (i := 0) x1 x3 x2 x4 (StrChars.Road.codOf rfl (fun c hc => (x5 c hc).2)) (up255 x5) (CS.ext OLD.2) hzc (SFm.ext OLD.2) rfm x6 (by omega) rfl (by decide) (by decide)) x1 rfl [(.int (0 : Int32))] rfl (lenOf pd_18 rfl) rfl (Nat.le_of_eq rfl) (by decide) (by decide) d_method_10_27 rfl ?_
    intro v201 T201 q201 D201
    subst q201
    show Go p e below _ (T201.setTop (mkF m 30 #[.val (.ref x), .val (.ref q), .val (.int (Int32.ofNat a)), .val (.int (Int32.ofNat (a + 4))), .val (.int (4 : Int32))] [(.int (cs.getD 0 0))]))
    refine g_aloadN D201 31 d_method_10_30 rfl rfl rfl ?_
    refine g_iloadN D201 32 d_method_10_31 rfl rfl ?_
    show Go p e below _ (T201.setTop (mkF m 32 #[.val (.ref x), .val (.ref q), .val (.int (Int32.ofNat a)), .val (.int (Int32.ofNat (a + 4))), .val (.int (4 : Int32))] [(.int (Int32.ofNat (a + 0))), (.ref q), (.int (cs.getD 0 0))]))
    refine g_caload D201 33 V_q (v := (.int (cs.getD 0 0))) ⟨own_nneg (by omega), (own_lt (b := 18) (by omega) (by omega)).mpr (by omega)⟩ (by rw [own_clamp (by omega)]; exact hq 0 (by omega)) d_method_10_32 rfl ?_
    refine g_icmpY D201 38 d_method_10_33 (teq rfl).1 (by decide) (by decide) ?_
    refine g_iload D201 40 d_method_10_38 rfl rfl ?_
    refine g_iconst D201 41 (1 : Int32) d_method_10_40 rfl rfl ?_
    refine g_icmpN D201 44 d_method_10_41 (by decide) rfl ?_
    refine g_aloadN D201 45 d_method_10_44 rfl rfl rfl ?_
    refine g_iconst D201 46 (1 : Int32) d_method_10_45 rfl rfl ?_
    refine g_callVp D201 49 (hw _ w_182) (hw _ w_148) (notFace_of_selects (args := #[]) (mvT D201.wm (hw _ w_150))) (hw _ w_150) (hw _ w_149) (by decide) (StrChars.Road.chN (W := 0) D201.wm (fun d hd => hw d (wchn d hd)) (kI := 4) (hw _ w_14) (i := 1) x1 x3 x2 x4 (StrChars.Road.codOf rfl (fun c hc => (x5 c hc).2)) (up255 x5) (CS.ext OLD.2) hzc (SFm.ext OLD.2) rfm x6 (by omega) rfl (by decide) (by decide)) x1 rfl [(.int (1 : Int32))] rfl (lenOf pd_18 rfl) rfl (Nat.le_of_eq rfl) (by decide) (by decide) d_method_10_46 rfl ?_
    intro v202 T202 q202 D202
    subst q202
    show Go p e below _ (T202.setTop (mkF m 49 #[.val (.ref x), .val (.ref q), .val (.int (Int32.ofNat a)), .val (.int (Int32.ofNat (a + 4))), .val (.int (4 : Int32))] [(.int (cs.getD 1 0))]))
    refine g_aloadN D202 50 d_method_10_49 rfl rfl rfl ?_
    refine g_iloadN D202 51 d_method_10_50 rfl rfl ?_
    refine g_iconst D202 52 (1 : Int32) d_method_10_51 rfl rfl ?_
    refine g_iadd D202 53 d_method_10_52 rfl ?_
    rw [own_ofadd1]
    show Go p e below _ (T202.setTop (mkF m 53 #[.val (.ref x), .val (.ref q), .val (.int (Int32.ofNat a)), .val (.int (Int32.ofNat (a + 4))), .val (.int (4 : Int32))] [(.int (Int32.ofNat (a + 1))), (.ref q), (.int (cs.getD 1 0))]))
    refine g_caload D202 54 V_q (v := (.int (cs.getD 1 0))) ⟨own_nneg (by omega), (own_lt (b := 18) (by omega) (by omega)).mpr (by omega)⟩ (by rw [own_clamp (by omega)]; exact hq 1 (by omega)) d_method_10_53 rfl ?_
    refine g_icmpY D202 59 d_method_10_54 (teq rfl).1 (by decide) (by decide) ?_
    refine g_iload D202 61 d_method_10_59 rfl rfl ?_
    refine g_iconst D202 62 (2 : Int32) d_method_10_61 rfl rfl ?_
    refine g_icmpN D202 65 d_method_10_62 (by decide) rfl ?_
    refine g_aloadN D202 66 d_method_10_65 rfl rfl rfl ?_
    refine g_iconst D202 67 (2 : Int32) d_method_10_66 rfl rfl ?_
    refine g_callVp D202 70 (hw _ w_182) (hw _ w_148) (notFace_of_selects (args := #[]) (mvT D202.wm (hw _ w_150))) (hw _ w_150) (hw _ w_149) (by decide) (StrChars.Road.chN (W := 0) D202.wm (fun d hd => hw d (wchn d hd)) (kI := 4) (hw _ w_14) (i := 2) x1 x3 x2 x4 (StrChars.Road.codOf rfl (fun c hc => (x5 c hc).2)) (up255 x5) (CS.ext OLD.2) hzc (SFm.ext OLD.2) rfm x6 (by omega) rfl (by decide) (by decide)) x1 rfl [(.int (2 : Int32))] rfl (lenOf pd_18 rfl) rfl (Nat.le_of_eq rfl) (by decide) (by decide) d_method_10_67 rfl ?_
    intro v203 T203 q203 D203
    subst q203
    show Go p e below _ (T203.setTop (mkF m 70 #[.val (.ref x), .val (.ref q), .val (.int (Int32.ofNat a)), .val (.int (Int32.ofNat (a + 4))), .val (.int (4 : Int32))] [(.int (cs.getD 2 0))]))
    refine g_aloadN D203 71 d_method_10_70 rfl rfl rfl ?_
    refine g_iloadN D203 72 d_method_10_71 rfl rfl ?_
    refine g_iconst D203 73 (2 : Int32) d_method_10_72 rfl rfl ?_
    refine g_iadd D203 74 d_method_10_73 rfl ?_
    rw [own_of2]
    show Go p e below _ (T203.setTop (mkF m 74 #[.val (.ref x), .val (.ref q), .val (.int (Int32.ofNat a)), .val (.int (Int32.ofNat (a + 4))), .val (.int (4 : Int32))] [(.int (Int32.ofNat (a + 2))), (.ref q), (.int (cs.getD 2 0))]))
    refine g_caload D203 75 V_q (v := (.int (cs.getD 2 0))) ⟨own_nneg (by omega), (own_lt (b := 18) (by omega) (by omega)).mpr (by omega)⟩ (by rw [own_clamp (by omega)]; exact hq 2 (by omega)) d_method_10_74 rfl ?_
    refine g_icmpY D203 80 d_method_10_75 (teq rfl).1 (by decide) (by decide) ?_
    refine g_iload D203 82 d_method_10_80 rfl rfl ?_
    refine g_iconst D203 83 (3 : Int32) d_method_10_82 rfl rfl ?_
    refine g_icmpN D203 86 d_method_10_83 (by decide) rfl ?_
    refine g_aloadN D203 87 d_method_10_86 rfl rfl rfl ?_
    refine g_iconst D203 88 (3 : Int32) d_method_10_87 rfl rfl ?_
    refine g_callVp D203 91 (hw _ w_182) (hw _ w_148) (notFace_of_selects (args := #[]) (mvT D203.wm (hw _ w_150))) (hw _ w_150) (hw _ w_149) (by decide) (StrChars.Road.chN (W := 0) D203.wm (fun d hd => hw d (wchn d hd)) (kI := 4) (hw _ w_14) (i := 3) x1 x3 x2 x4 (StrChars.Road.codOf rfl (fun c hc => (x5 c hc).2)) (up255 x5) (CS.ext OLD.2) hzc (SFm.ext OLD.2) rfm x6 (by omega) rfl (by decide) (by decide)) x1 rfl [(.int (3 : Int32))] rfl (lenOf pd_18 rfl) rfl (Nat.le_of_eq rfl) (by decide) (by decide) d_method_10_88 rfl ?_
    intro v204 T204 q204 D204
    subst q204
    show Go p e below _ (T204.setTop (mkF m 91 #[.val (.ref x), .val (.ref q), .val (.int (Int32.ofNat a)), .val (.int (Int32.ofNat (a + 4))), .val (.int (4 : Int32))] [(.int (cs.getD 3 0))]))
    refine g_aloadN D204 92 d_method_10_91 rfl rfl rfl ?_
    refine g_iloadN D204 93 d_method_10_92 rfl rfl ?_
    refine g_iconst D204 94 (3 : Int32) d_method_10_93 rfl rfl ?_
    refine g_iadd D204 95 d_method_10_94 rfl ?_
    rw [own_of3]
    show Go p e below _ (T204.setTop (mkF m 95 #[.val (.ref x), .val (.ref q), .val (.int (Int32.ofNat a)), .val (.int (Int32.ofNat (a + 4))), .val (.int (4 : Int32))] [(.int (Int32.ofNat (a + 3))), (.ref q), (.int (cs.getD 3 0))]))
    refine g_caload D204 96 V_q (v := (.int (cs.getD 3 0))) ⟨own_nneg (by omega), (own_lt (b := 18) (by omega) (by omega)).mpr (by omega)⟩ (by rw [own_clamp (by omega)]; exact hq 3 (by omega)) d_method_10_95 rfl ?_
    refine g_icmpY D204 101 d_method_10_96 (teq rfl).1 (by decide) (by decide) ?_
    refine g_iconst D204 102 (1 : Int32) d_method_10_101 rfl rfl ?_
    exact r_N D204 hret (by simp) hlk d_method_10_102 ⟨own_r1, rfl, rfl⟩ (by decide) (by decide)
theorem cLo (l : Launch) (Z : State) (a0 : Array Value) (hw : tHW Z a0) (ws : List Jvm.Cond) (q : Addr) (kq : ClassId) (fs : List Value) (a : Nat) (d0 d1 d2 d3 : Int32) (h0 : Heap) (n0 : Nat) (Z0 : n0 ≤ h0.size) (V_q : Arv Z h0 q kq .char (18 : Int32) fs (.int (0 : Int32))) (ha : a + 4 ≤ 18) (q0 : fs.getD (a + 0) (.int (0 : Int32)) = .int d0) (q1 : fs.getD (a + 1) (.int (0 : Int32)) = .int d1) (q2 : fs.getD (a + 2) (.int (0 : Int32)) = .int d2) (q3 : fs.getD (a + 3) (.int (0 : Int32)) = .int d3) :
    Con l (⟨"com/example/same_answer/sameanswer/MediaTypeParameterPinLaw", "lo4", "([CI)I"⟩ : MethodName) method_7_code 2 (some .int) ws ({ frames := 0, cells := 0, slots := 0, locals := 0 } : Room) Z #[(.ref q), (.int (Int32.ofNat a))] h0 (fun v h L => v = some (.int (Int32.ofNat (a + own_lo d0 d1 d2 d3))) ∧ L = [] ∧ h = h0) 0 0 := by
  refine enter (plainFor_of_name pn_5) ?_
  intro p e s m below meth c s₁ hnm hret hlk D0
  rw [ef_cLo m q (Int32.ofNat a)]
  refine g_aloadN D0 1 d_method_7_0 rfl rfl rfl ?_
  refine g_iloadN D0 2 d_method_7_1 rfl rfl ?_
  show Go p e below _ (s₁.setTop (mkF m 2 #[.val (.ref q), .val (.int (Int32.ofNat a))] [(.int (Int32.ofNat (a + 0))), (.ref q)]))
  refine g_caload D0 3 V_q (v := (.int d0)) ⟨own_nneg (by omega), (own_lt (b := 18) (by omega) (by omega)).mpr (by omega)⟩ (by rw [own_clamp (by omega)]; exact q0) d_method_7_2 rfl ?_
  refine g_bipush D0 5 (32 : Int32) d_method_7_3 rfl rfl ?_
  by_cases z0 : (32 : Int32) < d0
  · refine g_icmpN D0 8 d_method_7_5 (tlt z0).2.2.2 rfl ?_
    refine g_iloadN D0 9 d_method_7_8 rfl rfl ?_
    show Go p e below _ (s₁.setTop (mkF m 9 #[.val (.ref q), .val (.int (Int32.ofNat a))] [(.int (Int32.ofNat (a + 0)))]))
    exact r_I D0 hret hlk d_method_7_9 ⟨congrArg (fun z => some (Value.int (Int32.ofNat (a + z)))) (by rw [own_lo, if_pos z0]), rfl, rfl⟩ (by decide) (by decide)
  refine g_icmpY D0 10 d_method_7_5 (flt z0).2.2.2 (by decide) (by decide) ?_
  refine g_aloadN D0 11 d_method_7_10 rfl rfl rfl ?_
  refine g_iloadN D0 12 d_method_7_11 rfl rfl ?_
  refine g_iconst D0 13 (1 : Int32) d_method_7_12 rfl rfl ?_
  refine g_iadd D0 14 d_method_7_13 rfl ?_
  rw [own_ofadd1]
  show Go p e below _ (s₁.setTop (mkF m 14 #[.val (.ref q), .val (.int (Int32.ofNat a))] [(.int (Int32.ofNat (a + 1))), (.ref q)]))
  refine g_caload D0 15 V_q (v := (.int d1)) ⟨own_nneg (by omega), (own_lt (b := 18) (by omega) (by omega)).mpr (by omega)⟩ (by rw [own_clamp (by omega)]; exact q1) d_method_7_14 rfl ?_
  refine g_bipush D0 17 (32 : Int32) d_method_7_15 rfl rfl ?_
  by_cases z1 : (32 : Int32) < d1
  · refine g_icmpN D0 20 d_method_7_17 (tlt z1).2.2.2 rfl ?_
    refine g_iloadN D0 21 d_method_7_20 rfl rfl ?_
    refine g_iconst D0 22 (1 : Int32) d_method_7_21 rfl rfl ?_
    refine g_iadd D0 23 d_method_7_22 rfl ?_
    rw [own_ofadd1]
    show Go p e below _ (s₁.setTop (mkF m 23 #[.val (.ref q), .val (.int (Int32.ofNat a))] [(.int (Int32.ofNat (a + 1)))]))
    exact r_I D0 hret hlk d_method_7_23 ⟨congrArg (fun z => some (Value.int (Int32.ofNat (a + z)))) (by rw [own_lo, if_neg z0, if_pos z1]), rfl, rfl⟩ (by decide) (by decide)
  refine g_icmpY D0 24 d_method_7_17 (flt z1).2.2.2 (by decide) (by decide) ?_
  refine g_aloadN D0 25 d_method_7_24 rfl rfl rfl ?_
  refine g_iloadN D0 26 d_method_7_25 rfl rfl ?_
  refine g_iconst D0 27 (2 : Int32) d_method_7_26 rfl rfl ?_
  refine g_iadd D0 28 d_method_7_27 rfl ?_
  rw [own_of2]
  show Go p e below _ (s₁.setTop (mkF m 28 #[.val (.ref q), .val (.int (Int32.ofNat a))] [(.int (Int32.ofNat (a + 2))), (.ref q)]))
  refine g_caload D0 29 V_q (v := (.int d2)) ⟨own_nneg (by omega), (own_lt (b := 18) (by omega) (by omega)).mpr (by omega)⟩ (by rw [own_clamp (by omega)]; exact q2) d_method_7_28 rfl ?_
  refine g_bipush D0 31 (32 : Int32) d_method_7_29 rfl rfl ?_
  by_cases z2 : (32 : Int32) < d2
  · refine g_icmpN D0 34 d_method_7_31 (tlt z2).2.2.2 rfl ?_
    refine g_iloadN D0 35 d_method_7_34 rfl rfl ?_
    refine g_iconst D0 36 (2 : Int32) d_method_7_35 rfl rfl ?_
    refine g_iadd D0 37 d_method_7_36 rfl ?_
    rw [own_of2]
    show Go p e below _ (s₁.setTop (mkF m 37 #[.val (.ref q), .val (.int (Int32.ofNat a))] [(.int (Int32.ofNat (a + 2)))]))
    exact r_I D0 hret hlk d_method_7_37 ⟨congrArg (fun z => some (Value.int (Int32.ofNat (a + z)))) (by rw [own_lo, if_neg z0, if_neg z1, if_pos z2]), rfl, rfl⟩ (by decide) (by decide)
  refine g_icmpY D0 38 d_method_7_31 (flt z2).2.2.2 (by decide) (by decide) ?_
  refine g_aloadN D0 39 d_method_7_38 rfl rfl rfl ?_
  refine g_iloadN D0 40 d_method_7_39 rfl rfl ?_
  refine g_iconst D0 41 (3 : Int32) d_method_7_40 rfl rfl ?_
  refine g_iadd D0 42 d_method_7_41 rfl ?_
  rw [own_of3]
  show Go p e below _ (s₁.setTop (mkF m 42 #[.val (.ref q), .val (.int (Int32.ofNat a))] [(.int (Int32.ofNat (a + 3))), (.ref q)]))
  refine g_caload D0 43 V_q (v := (.int d3)) ⟨own_nneg (by omega), (own_lt (b := 18) (by omega) (by omega)).mpr (by omega)⟩ (by rw [own_clamp (by omega)]; exact q3) d_method_7_42 rfl ?_
  refine g_bipush D0 45 (32 : Int32) d_method_7_43 rfl rfl ?_
  by_cases z3 : (32 : Int32) < d3
  · refine g_icmpN D0 48 d_method_7_45 (tlt z3).2.2.2 rfl ?_
    refine g_iloadN D0 49 d_method_7_48 rfl rfl ?_
    refine g_iconst D0 50 (3 : Int32) d_method_7_49 rfl rfl ?_
    refine g_iadd D0 51 d_method_7_50 rfl ?_
    rw [own_of3]
    show Go p e below _ (s₁.setTop (mkF m 51 #[.val (.ref q), .val (.int (Int32.ofNat a))] [(.int (Int32.ofNat (a + 3)))]))
    exact r_I D0 hret hlk d_method_7_51 ⟨congrArg (fun z => some (Value.int (Int32.ofNat (a + z)))) (by rw [own_lo, if_neg z0, if_neg z1, if_neg z2, if_pos z3]), rfl, rfl⟩ (by decide) (by decide)
  refine g_icmpY D0 52 d_method_7_45 (flt z3).2.2.2 (by decide) (by decide) ?_
  refine g_iloadN D0 53 d_method_7_52 rfl rfl ?_
  refine g_iconst D0 54 (4 : Int32) d_method_7_53 rfl rfl ?_
  refine g_iadd D0 55 d_method_7_54 rfl ?_
  rw [own_of4]
  show Go p e below _ (s₁.setTop (mkF m 55 #[.val (.ref q), .val (.int (Int32.ofNat a))] [(.int (Int32.ofNat (a + 4)))]))
  exact r_I D0 hret hlk d_method_7_55 ⟨congrArg (fun z => some (Value.int (Int32.ofNat (a + z)))) (by rw [own_lo, if_neg z0, if_neg z1, if_neg z2, if_neg z3]), rfl, rfl⟩ (by decide) (by decide)
theorem cHi (l : Launch) (Z : State) (a0 : Array Value) (hw : tHW Z a0) (ws : List Jvm.Cond) (q : Addr) (kq : ClassId) (fs : List Value) (a : Nat) (d0 d1 d2 d3 : Int32) (h0 : Heap) (n0 : Nat) (Z0 : n0 ≤ h0.size) (V_q : Arv Z h0 q kq .char (18 : Int32) fs (.int (0 : Int32))) (ha : a + 4 ≤ 18) (q0 : fs.getD (a + 0) (.int (0 : Int32)) = .int d0) (q1 : fs.getD (a + 1) (.int (0 : Int32)) = .int d1) (q2 : fs.getD (a + 2) (.int (0 : Int32)) = .int d2) (q3 : fs.getD (a + 3) (.int (0 : Int32)) = .int d3) :
    Con l (⟨"com/example/same_answer/sameanswer/MediaTypeParameterPinLaw", "hi4", "([CI)I"⟩ : MethodName) method_8_code 2 (some .int) ws ({ frames := 0, cells := 0, slots := 0, locals := 0 } : Room) Z #[(.ref q), (.int (Int32.ofNat a))] h0 (fun v h L => v = some (.int (Int32.ofNat (a + own_hi d0 d1 d2 d3))) ∧ L = [] ∧ h = h0) 0 0 := by
  refine enter (plainFor_of_name pn_5) ?_
  intro p e s m below meth c s₁ hnm hret hlk D0
  rw [ef_cHi m q (Int32.ofNat a)]
  refine g_aloadN D0 1 d_method_8_0 rfl rfl rfl ?_
  refine g_iloadN D0 2 d_method_8_1 rfl rfl ?_
  refine g_iconst D0 3 (3 : Int32) d_method_8_2 rfl rfl ?_
  refine g_iadd D0 4 d_method_8_3 rfl ?_
  rw [own_of3]
  show Go p e below _ (s₁.setTop (mkF m 4 #[.val (.ref q), .val (.int (Int32.ofNat a))] [(.int (Int32.ofNat (a + 3))), (.ref q)]))
  refine g_caload D0 5 V_q (v := (.int d3)) ⟨own_nneg (by omega), (own_lt (b := 18) (by omega) (by omega)).mpr (by omega)⟩ (by rw [own_clamp (by omega)]; exact q3) d_method_8_4 rfl ?_
  refine g_bipush D0 7 (32 : Int32) d_method_8_5 rfl rfl ?_
  by_cases z3 : (32 : Int32) < d3
  · refine g_icmpN D0 10 d_method_8_7 (tlt z3).2.2.2 rfl ?_
    refine g_iloadN D0 11 d_method_8_10 rfl rfl ?_
    refine g_iconst D0 12 (4 : Int32) d_method_8_11 rfl rfl ?_
    refine g_iadd D0 13 d_method_8_12 rfl ?_
    rw [own_of4]
    show Go p e below _ (s₁.setTop (mkF m 13 #[.val (.ref q), .val (.int (Int32.ofNat a))] [(.int (Int32.ofNat (a + 4)))]))
    exact r_I D0 hret hlk d_method_8_13 ⟨congrArg (fun z => some (Value.int (Int32.ofNat (a + z)))) (by rw [own_hi, if_pos z3]), rfl, rfl⟩ (by decide) (by decide)
  refine g_icmpY D0 14 d_method_8_7 (flt z3).2.2.2 (by decide) (by decide) ?_
  refine g_aloadN D0 15 d_method_8_14 rfl rfl rfl ?_
  refine g_iloadN D0 16 d_method_8_15 rfl rfl ?_
  refine g_iconst D0 17 (2 : Int32) d_method_8_16 rfl rfl ?_
  refine g_iadd D0 18 d_method_8_17 rfl ?_
  rw [own_of2]
  show Go p e below _ (s₁.setTop (mkF m 18 #[.val (.ref q), .val (.int (Int32.ofNat a))] [(.int (Int32.ofNat (a + 2))), (.ref q)]))
  refine g_caload D0 19 V_q (v := (.int d2)) ⟨own_nneg (by omega), (own_lt (b := 18) (by omega) (by omega)).mpr (by omega)⟩ (by rw [own_clamp (by omega)]; exact q2) d_method_8_18 rfl ?_
  refine g_bipush D0 21 (32 : Int32) d_method_8_19 rfl rfl ?_
  by_cases z2 : (32 : Int32) < d2
  · refine g_icmpN D0 24 d_method_8_21 (tlt z2).2.2.2 rfl ?_
    refine g_iloadN D0 25 d_method_8_24 rfl rfl ?_
    refine g_iconst D0 26 (3 : Int32) d_method_8_25 rfl rfl ?_
    refine g_iadd D0 27 d_method_8_26 rfl ?_
    rw [own_of3]
    show Go p e below _ (s₁.setTop (mkF m 27 #[.val (.ref q), .val (.int (Int32.ofNat a))] [(.int (Int32.ofNat (a + 3)))]))
    exact r_I D0 hret hlk d_method_8_27 ⟨congrArg (fun z => some (Value.int (Int32.ofNat (a + z)))) (by rw [own_hi, if_neg z3, if_pos z2]), rfl, rfl⟩ (by decide) (by decide)
  refine g_icmpY D0 28 d_method_8_21 (flt z2).2.2.2 (by decide) (by decide) ?_
  refine g_aloadN D0 29 d_method_8_28 rfl rfl rfl ?_
  refine g_iloadN D0 30 d_method_8_29 rfl rfl ?_
  refine g_iconst D0 31 (1 : Int32) d_method_8_30 rfl rfl ?_
  refine g_iadd D0 32 d_method_8_31 rfl ?_
  rw [own_ofadd1]
  show Go p e below _ (s₁.setTop (mkF m 32 #[.val (.ref q), .val (.int (Int32.ofNat a))] [(.int (Int32.ofNat (a + 1))), (.ref q)]))
  refine g_caload D0 33 V_q (v := (.int d1)) ⟨own_nneg (by omega), (own_lt (b := 18) (by omega) (by omega)).mpr (by omega)⟩ (by rw [own_clamp (by omega)]; exact q1) d_method_8_32 rfl ?_
  refine g_bipush D0 35 (32 : Int32) d_method_8_33 rfl rfl ?_
  by_cases z1 : (32 : Int32) < d1
  · refine g_icmpN D0 38 d_method_8_35 (tlt z1).2.2.2 rfl ?_
    refine g_iloadN D0 39 d_method_8_38 rfl rfl ?_
    refine g_iconst D0 40 (2 : Int32) d_method_8_39 rfl rfl ?_
    refine g_iadd D0 41 d_method_8_40 rfl ?_
    rw [own_of2]
    show Go p e below _ (s₁.setTop (mkF m 41 #[.val (.ref q), .val (.int (Int32.ofNat a))] [(.int (Int32.ofNat (a + 2)))]))
    exact r_I D0 hret hlk d_method_8_41 ⟨congrArg (fun z => some (Value.int (Int32.ofNat (a + z)))) (by rw [own_hi, if_neg z3, if_neg z2, if_pos z1]), rfl, rfl⟩ (by decide) (by decide)
  refine g_icmpY D0 42 d_method_8_35 (flt z1).2.2.2 (by decide) (by decide) ?_
  refine g_aloadN D0 43 d_method_8_42 rfl rfl rfl ?_
  refine g_iloadN D0 44 d_method_8_43 rfl rfl ?_
  show Go p e below _ (s₁.setTop (mkF m 44 #[.val (.ref q), .val (.int (Int32.ofNat a))] [(.int (Int32.ofNat (a + 0))), (.ref q)]))
  refine g_caload D0 45 V_q (v := (.int d0)) ⟨own_nneg (by omega), (own_lt (b := 18) (by omega) (by omega)).mpr (by omega)⟩ (by rw [own_clamp (by omega)]; exact q0) d_method_8_44 rfl ?_
  refine g_bipush D0 47 (32 : Int32) d_method_8_45 rfl rfl ?_
  by_cases z0 : (32 : Int32) < d0
  · refine g_icmpN D0 50 d_method_8_47 (tlt z0).2.2.2 rfl ?_
    refine g_iloadN D0 51 d_method_8_50 rfl rfl ?_
    refine g_iconst D0 52 (1 : Int32) d_method_8_51 rfl rfl ?_
    refine g_iadd D0 53 d_method_8_52 rfl ?_
    rw [own_ofadd1]
    show Go p e below _ (s₁.setTop (mkF m 53 #[.val (.ref q), .val (.int (Int32.ofNat a))] [(.int (Int32.ofNat (a + 1)))]))
    exact r_I D0 hret hlk d_method_8_53 ⟨congrArg (fun z => some (Value.int (Int32.ofNat (a + z)))) (by rw [own_hi, if_neg z3, if_neg z2, if_neg z1, if_pos z0]), rfl, rfl⟩ (by decide) (by decide)
  refine g_icmpY D0 54 d_method_8_47 (flt z0).2.2.2 (by decide) (by decide) ?_
  refine g_iloadN D0 55 d_method_8_54 rfl rfl ?_
  show Go p e below _ (s₁.setTop (mkF m 55 #[.val (.ref q), .val (.int (Int32.ofNat a))] [(.int (Int32.ofNat (a + 0)))]))
  exact r_I D0 hret hlk d_method_8_55 ⟨congrArg (fun z => some (Value.int (Int32.ofNat (a + z)))) (by rw [own_hi, if_neg z3, if_neg z2, if_neg z1, if_neg z0]), rfl, rfl⟩ (by decide) (by decide)
theorem cMxx (l : Launch) (Z : State) (a0 : Array Value) (hw : tHW Z a0) (ws : List Jvm.Cond) (ua ub : Nat) (h0 : Heap) (n0 : Nat) (Z0 : n0 ≤ h0.size) (hua : ua ≤ 4000) (hub : ub ≤ 4000) :
    Con l (⟨"java/lang/Math", "max", "(II)I"⟩ : MethodName) jdk_29_method_65_code 2 (some .int) ws ({ frames := 0, cells := 0, slots := 0, locals := 0 } : Room) Z #[(.int (Int32.ofNat ua)), (.int (Int32.ofNat ub))] h0 (fun v h L => v = some (.int (Int32.ofNat (max ua ub))) ∧ L = [] ∧ h = h0) 0 0 := by
  refine enter (Jvm.Free.JP.mathPlain rfl (by decide +kernel)) ?_
  intro p e s m below meth c s₁ hnm hret hlk D0
  rw [ef_cMxx m (Int32.ofNat ua) (Int32.ofNat ub)]
  refine g_iloadN D0 1 d_jdk_29m65_0 rfl rfl ?_
  refine g_iloadN D0 2 d_jdk_29m65_1 rfl rfl ?_
  by_cases z0 : (Int32.ofNat ua) < (Int32.ofNat ub)
  · refine g_icmpY D0 9 d_jdk_29m65_2 (tlt z0).1 (by decide) (by decide) ?_
    refine g_iloadN D0 10 d_jdk_29m65_9 rfl rfl ?_
    exact r_I D0 hret hlk d_jdk_29m65_10 ⟨congrArg (fun z => some (Value.int z)) (congrArg Int32.ofNat (Nat.max_eq_right (Nat.le_of_lt ((own_lt (by omega) (by omega)).mp z0))).symm), rfl, rfl⟩ (by decide) (by decide)
  refine g_icmpN D0 5 d_jdk_29m65_2 (flt z0).1 rfl ?_
  refine g_iloadN D0 6 d_jdk_29m65_5 rfl rfl ?_
  refine g_goto D0 10 d_jdk_29m65_6 (by decide) (by decide) ?_
  exact r_I D0 hret hlk d_jdk_29m65_10 ⟨congrArg (fun z => some (Value.int z)) (congrArg Int32.ofNat (Nat.max_eq_left (Nat.le_of_not_lt fun q => z0 ((own_lt (by omega) (by omega)).mpr q))).symm), rfl, rfl⟩ (by decide) (by decide)
theorem cTrd (l : Launch) (Z : State) (a0 : Array Value) (hw : tHW Z a0) (ws : List Jvm.Cond) (x : Addr) (q : Addr) (kq : ClassId) (fs : List Value) (a : Nat) (d0 d1 d2 d3 : Int32) (zc : Int32) (fm : Value) (h0 : Heap) (n0 : Nat) (Z0 : n0 ≤ h0.size) (OLD : Old Z n0 h0) (CS : tCS Z zc) (hzc : ¬ zc = 0) (SFm : tSF Z fm) (rfm : fm.isRef = true) (X_x : LS Z h0 x (own_trim [d0, d1, d2, d3])) (V_q : Arv Z h0 q kq .char (18 : Int32) fs (.int (0 : Int32))) (ha : a + 4 ≤ 18) (q0 : fs.getD (a + 0) (.int (0 : Int32)) = .int d0) (q1 : fs.getD (a + 1) (.int (0 : Int32)) = .int d1) (q2 : fs.getD (a + 2) (.int (0 : Int32)) = .int d2) (q3 : fs.getD (a + 3) (.int (0 : Int32)) = .int d3) :
    Con l (⟨"com/example/same_answer/sameanswer/MediaTypeParameterPinLaw", "trimmed", "(Ljava/lang/String;[CI)Z"⟩ : MethodName) method_9_code 5 (some .boolean) ws ({ frames := 5, cells := 0, slots := 0, locals := 84 } : Room) Z #[(.ref x), (.ref q), (.int (Int32.ofNat a))] h0 (fun v h L => v = some (.int (1 : Int32)) ∧ L = [] ∧ h = h0) 0 0 := by
  refine enter (plainFor_of_name pn_5) ?_
  intro p e s m below meth c s₁ hnm hret hlk D0
  rw [ef_cTrd m x q (Int32.ofNat a)]
  obtain ⟨e1, e2, e3, e4⟩ := own_trlh d0 d1 d2 d3
  refine g_aloadN D0 1 d_method_9_0 rfl rfl rfl ?_
  refine g_iloadN D0 2 d_method_9_1 rfl rfl ?_
  refine g_callSp D0 5 (hw _ w_186) (hw _ w_187) (hw _ w_2) (hw _ w_188) (by decide) ((cLo l Z a0 hw [] q kq fs a d0 d1 d2 d3 h0 n0 Z0 V_q ha q0 q1 q2 q3).back D0 0 (hw _ w_188) (hw _ w_2) (by decide) (by decide)) rfl [(.ref q), (.int (Int32.ofNat a))] rfl (lenOf pd_19 rfl) rfl (Nat.le_of_eq rfl) (by decide) (by decide) d_method_9_2 rfl ?_
  intro v205 T205 q205 D205
  subst q205
  show Go p e below _ (T205.setTop (mkF m 5 #[.val (.ref x), .val (.ref q), .val (.int (Int32.ofNat a)), .unset, .unset] [(.int (Int32.ofNat (a + (own_lo d0 d1 d2 d3))))]))
  refine g_istoreN D205 6 #[.val (.ref x), .val (.ref q), .val (.int (Int32.ofNat a)), .val (.int (Int32.ofNat (a + (own_lo d0 d1 d2 d3)))), .unset] d_method_9_5 rfl rfl ?_
  refine g_aloadN D205 7 d_method_9_6 rfl rfl rfl ?_
  refine g_iloadN D205 8 d_method_9_7 rfl rfl ?_
  refine g_callSp D205 11 (hw _ w_189) (hw _ w_190) (hw _ w_2) (hw _ w_191) (by decide) ((cHi l Z a0 hw [] q kq fs a d0 d1 d2 d3 h0 n0 Z0 V_q ha q0 q1 q2 q3).back D205 0 (hw _ w_191) (hw _ w_2) (by decide) (by decide)) rfl [(.ref q), (.int (Int32.ofNat a))] rfl (lenOf pd_19 rfl) rfl (Nat.le_of_eq rfl) (by decide) (by decide) d_method_9_8 rfl ?_
  intro v206 T206 q206 D206
  subst q206
  show Go p e below _ (T206.setTop (mkF m 11 #[.val (.ref x), .val (.ref q), .val (.int (Int32.ofNat a)), .val (.int (Int32.ofNat (a + (own_lo d0 d1 d2 d3)))), .unset] [(.int (Int32.ofNat (a + (own_hi d0 d1 d2 d3))))]))
  refine g_istore D206 13 #[.val (.ref x), .val (.ref q), .val (.int (Int32.ofNat a)), .val (.int (Int32.ofNat (a + (own_lo d0 d1 d2 d3)))), .val (.int (Int32.ofNat (a + (own_hi d0 d1 d2 d3))))] d_method_9_11 rfl rfl ?_
  refine g_aloadN D206 14 d_method_9_13 rfl rfl rfl ?_
  refine g_aloadN D206 15 d_method_9_14 rfl rfl rfl ?_
  refine g_iloadN D206 16 d_method_9_15 rfl rfl ?_
  refine g_iloadN D206 17 d_method_9_16 rfl rfl ?_
  refine g_iload D206 19 d_method_9_17 rfl rfl ?_
  refine g_callSp D206 22 (hw _ w_192) (hw _ w_94) (hw _ w_95) (hw _ w_96) (by decide) ((cMxx l Z a0 hw [] _ _ h0 n0 Z0 (by omega) (by omega)).back D206 3 (hw _ w_96) (hw _ w_95) (by decide) (by decide)) rfl [(.int (Int32.ofNat (a + (own_lo d0 d1 d2 d3)))), (.int (Int32.ofNat (a + (own_hi d0 d1 d2 d3))))] rfl (lenOf pd_1 rfl) rfl (Nat.le_of_eq rfl) (by decide) (by decide) d_method_9_19 rfl ?_
  intro v207 T207 q207 D207
  subst q207
  show Go p e below _ (T207.setTop (mkF m 22 #[.val (.ref x), .val (.ref q), .val (.int (Int32.ofNat a)), .val (.int (Int32.ofNat (a + (own_lo d0 d1 d2 d3)))), .val (.int (Int32.ofNat (a + (own_hi d0 d1 d2 d3))))] [(.int (Int32.ofNat (max (a + (own_lo d0 d1 d2 d3)) (a + (own_hi d0 d1 d2 d3))))), (.int (Int32.ofNat (a + (own_lo d0 d1 d2 d3)))), (.ref q), (.ref x)]))
  rw [show max (a + (own_lo d0 d1 d2 d3)) (a + (own_hi d0 d1 d2 d3)) = (a + (own_lo d0 d1 d2 d3)) + (max (own_lo d0 d1 d2 d3) (own_hi d0 d1 d2 d3) - (own_lo d0 d1 d2 d3)) from by omega]
  show Go p e below _ (T207.setTop (mkF m 22 #[.val (.ref x), .val (.ref q), .val (.int (Int32.ofNat a)), .val (.int (Int32.ofNat (a + (own_lo d0 d1 d2 d3)))), .val (.int (Int32.ofNat (a + (own_hi d0 d1 d2 d3))))] [(.int (Int32.ofNat (a + (own_lo d0 d1 d2 d3) + (max (own_lo d0 d1 d2 d3) (own_hi d0 d1 d2 d3) - (own_lo d0 d1 d2 d3))))), (.int (Int32.ofNat (a + (own_lo d0 d1 d2 d3)))), (.ref q), (.ref x)]))
  refine g_callSp D207 25 (hw _ w_178) (hw _ w_179) (hw _ w_2) (hw _ w_180) (by decide) ((cSame l Z a0 hw [] x q kq fs (own_trim [d0, d1, d2, d3]) (a + (own_lo d0 d1 d2 d3)) (max (own_lo d0 d1 d2 d3) (own_hi d0 d1 d2 d3) - (own_lo d0 d1 d2 d3)) zc fm h0 n0 Z0 OLD CS hzc SFm rfm X_x e1 (by omega) V_q (by omega) (fun i hi => by rw [e4 i hi, Nat.add_assoc]; exact own_get4 q0 q1 q2 q3 (by omega))).back D207 0 (hw _ w_180) (hw _ w_2) (by decide) (by decide)) rfl [(.ref x), (.ref q), (.int (Int32.ofNat (a + (own_lo d0 d1 d2 d3)))), (.int (Int32.ofNat (a + (own_lo d0 d1 d2 d3) + (max (own_lo d0 d1 d2 d3) (own_hi d0 d1 d2 d3) - (own_lo d0 d1 d2 d3)))))] rfl (lenOf pd_20 rfl) rfl (Nat.le_of_eq rfl) (by decide) (by decide) d_method_9_22 rfl ?_
  intro v208 T208 q208 D208
  subst q208
  show Go p e below _ (T208.setTop (mkF m 25 #[.val (.ref x), .val (.ref q), .val (.int (Int32.ofNat a)), .val (.int (Int32.ofNat (a + (own_lo d0 d1 d2 d3)))), .val (.int (Int32.ofNat (a + (own_hi d0 d1 d2 d3))))] [(.int (1 : Int32))]))
  exact r_N D208 hret (by simp) hlk d_method_9_25 ⟨own_r1, rfl, rfl⟩ (by decide) (by decide)
theorem cP0 (l : Launch) (Z : State) (a0 : Array Value) (hw : tHW Z a0) (ws : List Jvm.Cond) (y : Addr) (h0 : Heap) (n0 : Nat) (Z0 : n0 ≤ h0.size)  :
    Con l (⟨"com/example/same_answer/sameanswer/MediaType", "parameter", "(Ljava/lang/String;Ljava/lang/String;)Ljava/lang/String;"⟩ : MethodName) prog_10_method_3_code 8 (some (.object "java/lang/String")) ws ({ frames := 0, cells := 0, slots := 0, locals := 0 } : Room) Z #[.null, (.ref y)] h0 (fun v h L => v = some .null ∧ L = [] ∧ h = h0) 0 0 := by
  refine enter (plainFor_of_name pn_6) ?_
  intro p e s m below meth c s₁ hnm hret hlk D0
  rw [ef_cP0 m y]
  refine g_aloadN D0 1 d_prog_10m3_0 rfl rfl rfl ?_
  refine g_nnN D0 4 d_prog_10m3_1 rfl ?_
  refine g_aconst D0 5 d_prog_10m3_4 rfl ?_
  exact r_A D0 hret rfl rfl hlk d_prog_10m3_5 ⟨rfl, rfl, rfl⟩ (by decide) (by decide)
def Q_cP1 (Z : State) (x y : Addr) (c0 la ce lq zc : Int32) (fm : Value) (h0 : Heap) (n0 : Nat) : Option Value → Heap → List Loc → Prop := (own_QP Z h0 n0 (if ce = (61 : Int32) ∧ ¬ c0 = (59 : Int32) ∧ ¬ own_ci la lq = 0 then some [] else none))
theorem cP1 (l : Launch) (Z : State) (a0 : Array Value) (hw : tHW Z a0) (ws : List Jvm.Cond) (x y : Addr) (c0 la ce lq zc : Int32) (fm : Value) (h0 : Heap) (n0 : Nat) (Z0 : n0 ≤ h0.size) (hEW : EW Z a0 consts_1) (OLD : Old Z n0 h0) (CS : tCS Z zc) (hzc : ¬ zc = 0) (SFm : tSF Z fm) (rfm : fm.isRef = true) (X_x : LS Z h0 x [c0, (59 : Int32), (32 : Int32), la, (9 : Int32), ce]) (X_y : LS Z h0 y [lq]) (hla : own_isl la) (hlq : own_isl lq) :
    ConW l (⟨"com/example/same_answer/sameanswer/MediaType", "parameter", "(Ljava/lang/String;Ljava/lang/String;)Ljava/lang/String;"⟩ : MethodName) prog_10_method_3_code 8 (some (.object "java/lang/String")) ws ({ frames := 6, cells := 16, slots := 176, locals := 160 } : Room) Z consts_1 #[(.ref x), (.ref y)] h0 (Q_cP1 Z x y c0 la ce lq zc fm h0 n0) 16 176 := by
  refine enterW (plainFor_of_name pn_6) ?_
  intro p e s m below meth c s₁ hnm hret hlk D0
  rw [ef_cP1 m x y]
  by_cases hz : c0 = (59 : Int32)
  · subst hz
    by_cases he : ce = (61 : Int32)
    · subst he
      show Go p e below _ (s₁.setTop (mkF m 0 #[.val (.ref x), .val (.ref y), .unset, .unset, .unset, .unset, .unset, .unset] []))
      refine g_aloadN D0 1 d_prog_10m3_0 rfl rfl rfl ?_
      refine g_nnY D0 6 d_prog_10m3_1 (by decide) (by decide) ?_
      refine g_aloadN D0 7 d_prog_10m3_6 rfl rfl rfl ?_
      refine g_bipush D0 9 (59 : Int32) d_prog_10m3_7 rfl rfl ?_
      refine g_callVp D0 12 (hw _ w_62) (hw _ w_63) (notFace_of_selects (args := #[]) (mvT D0.wm (hw _ w_65))) (hw _ w_65) (hw _ w_64) (by decide) ((cIX1 l Z a0 hw [] x (59 : Int32) zc [(59 : Int32), (59 : Int32), (32 : Int32), la, (9 : Int32), (61 : Int32)] h0 n0 Z0 OLD CS hzc X_x (by decide)).back D0 0 (hw _ w_66) (hw _ w_6) (by decide) (by decide)) (X_x).exa rfl [(.int (59 : Int32))] rfl (lenOf pd_21 rfl) rfl (Nat.le_of_eq rfl) (by decide) (by decide) d_prog_10m3_9 rfl ?_
      intro v209 T209 q209 D209
      obtain ⟨r209, rfl, c209⟩ := q209
      obtain rfl : r209 = (0 : Int32) := c209.is (j := 0) (by decide) (Nat.le_of_ble_eq_true rfl : 1 ≤ List.length [(59 : Int32), (59 : Int32), (32 : Int32), la, (9 : Int32), (61 : Int32)]) rfl own_al0
      show Go p e below _ (T209.setTop (mkF m 12 #[.val (.ref x), .val (.ref y), .unset, .unset, .unset, .unset, .unset, .unset] [(.int (0 : Int32))]))
      refine g_istoreN D209 13 #[.val (.ref x), .val (.ref y), .val (.int (0 : Int32)), .unset, .unset, .unset, .unset, .unset] d_prog_10m3_12 rfl rfl ?_
      refine g_iloadN D209 14 d_prog_10m3_13 rfl rfl ?_
      refine g_ifN D209 17 d_prog_10m3_14 (by decide) rfl ?_
      refine g_aloadN D209 18 d_prog_10m3_17 rfl rfl rfl ?_
      refine g_bipush D209 20 (61 : Int32) d_prog_10m3_18 rfl rfl ?_
      refine g_iloadN D209 21 d_prog_10m3_20 rfl rfl ?_
      refine g_callVp D209 24 (hw _ w_103) (hw _ w_68) (notFace_of_selects (args := #[]) (mvT D209.wm (hw _ w_70))) (hw _ w_70) (hw _ w_69) (by decide) ((cIX2 l Z a0 hw [] x (61 : Int32) zc 0 [(59 : Int32), (59 : Int32), (32 : Int32), la, (9 : Int32), (61 : Int32)] h0 n0 Z0 OLD CS hzc X_x (by decide) (Nat.le_of_ble_eq_true rfl)).back D209 0 (hw _ w_71) (hw _ w_6) (by decide) (by decide)) (X_x).exa rfl [(.int (61 : Int32)), (.int (0 : Int32))] rfl (lenOf pd_1 rfl) rfl (Nat.le_of_eq rfl) (by decide) (by decide) d_prog_10m3_21 rfl ?_
      intro v210 T210 q210 D210
      obtain ⟨r210, rfl, c210⟩ := q210
      obtain rfl : r210 = (5 : Int32) := c210.is (j := 5) (by decide) (Nat.le_of_ble_eq_true rfl : 6 ≤ List.length [(59 : Int32), (59 : Int32), (32 : Int32), la, (9 : Int32), (61 : Int32)]) rfl (own_alS (show ¬ (59 : Int32) = (61 : Int32) by decide) (own_alS (show ¬ (59 : Int32) = (61 : Int32) by decide) (own_alS (show ¬ (32 : Int32) = (61 : Int32) by decide) (own_alS (own_isln hla).2.1 (own_alS (show ¬ (9 : Int32) = (61 : Int32) by decide) own_al0)))))
      show Go p e below _ (T210.setTop (mkF m 24 #[.val (.ref x), .val (.ref y), .val (.int (0 : Int32)), .unset, .unset, .unset, .unset, .unset] [(.int (5 : Int32))]))
      refine g_istoreN D210 25 #[.val (.ref x), .val (.ref y), .val (.int (0 : Int32)), .val (.int (5 : Int32)), .unset, .unset, .unset, .unset] d_prog_10m3_24 rfl rfl ?_
      refine g_iloadN D210 26 d_prog_10m3_25 rfl rfl ?_
      refine g_ifY D210 31 d_prog_10m3_26 (by decide) (by decide) (by decide) ?_
      refine g_aloadN D210 32 d_prog_10m3_31 rfl rfl rfl ?_
      refine g_iloadN D210 33 d_prog_10m3_32 rfl rfl ?_
      refine g_iconst D210 34 (1 : Int32) d_prog_10m3_33 rfl rfl ?_
      refine g_iadd D210 35 d_prog_10m3_34 rfl ?_
      rw [show ((0 : Int32) + (1 : Int32)) = (1 : Int32) from by decide]
      refine g_iloadN D210 36 d_prog_10m3_35 rfl rfl ?_
      refine g_callV D210 39 (hw _ w_104) (hw _ w_105) (notFace_of_selects (args := #[]) (mvT D210.wm (hw _ w_107))) (hw _ w_107) (hw _ w_106) (by decide) ((cSub l Z a0 hw [] x [(59 : Int32), (59 : Int32), (32 : Int32), la, (9 : Int32), (61 : Int32)] 1 5 zc fm h0 n0 Z0 OLD CS hzc SFm rfm X_x (by decide) (Nat.le_of_ble_eq_true rfl) (Nat.le_of_ble_eq_true rfl) (by decide)).back D210 0 (hw _ w_108) (hw _ w_6) (by decide) (by decide)) (X_x).exa rfl [(.int (1 : Int32)), (.int (5 : Int32))] rfl (lenOf pd_22 rfl) rfl (Nat.le_of_eq rfl) (by decide) (by decide) (fun _ _ _ q => by obtain ⟨_, _, _, _, E, _⟩ := q; exact D210.iv.ext E) d_prog_10m3_36 rfl ?_
      intro v211 T211 h211 L211 q211 D211
      obtain ⟨y211, rfl, g211, N211, E211, X211⟩ := q211
      have NF211 := Fr.app (Fr.nil n0) N211
      replace X211 : LS Z h211 y211 [(59 : Int32), (32 : Int32), la, (9 : Int32)] := X211
      show Go p e below _ (T211.setTop (mkF m 39 #[.val (.ref x), .val (.ref y), .val (.int (0 : Int32)), .val (.int (5 : Int32)), .unset, .unset, .unset, .unset] [(.ref y211)]))
      refine g_callV D211 42 (hw _ w_137) (hw _ w_138) (notFace_of_selects (args := #[]) (mvT D211.wm (hw _ w_140))) (hw _ w_140) (hw _ w_139) (by decide) ((cTr_n4 l Z a0 hw [] y211 zc la h211 n0 (Nat.le_trans Z0 E211.1) (OLD.ext E211) CS hzc X211 (own_isln hla).2.2).back D211 0 (hw _ w_141) (hw _ w_6) (by decide) (by decide)) (X211).exa rfl [] rfl (lenOf pd_23 rfl) rfl (Nat.le_of_eq rfl) (by decide) (by decide) (fun _ _ _ q => by obtain ⟨_, _, _, _, E, _⟩ := q; exact D211.iv.ext E) d_prog_10m3_39 rfl ?_
      intro v212 T212 h212 L212 q212 D212
      obtain ⟨y212, rfl, g212, N212, E212, X212⟩ := q212
      have NF212 := Fr.app NF211 N212
      rw [own_t4 (own_isln hla).2.2] at X212
      have ne212 : y212 ≠ y := Nat.ne_of_gt (Nat.lt_of_lt_of_le (X_y.ext E211).lt g212)
      show Go p e below _ (T212.setTop (mkF m 42 #[.val (.ref x), .val (.ref y), .val (.int (0 : Int32)), .val (.int (5 : Int32)), .unset, .unset, .unset, .unset] [(.ref y212)]))
      refine g_astore D212 44 #[.val (.ref x), .val (.ref y), .val (.int (0 : Int32)), .val (.int (5 : Int32)), .val (.ref y212), .unset, .unset, .unset] d_prog_10m3_42 rfl rfl rfl ?_
      refine g_iloadN D212 45 d_prog_10m3_44 rfl rfl ?_
      refine g_iconst D212 46 (1 : Int32) d_prog_10m3_45 rfl rfl ?_
      refine g_iadd D212 47 d_prog_10m3_46 rfl ?_
      rw [show ((5 : Int32) + (1 : Int32)) = (6 : Int32) from by decide]
      refine g_istore D212 49 #[.val (.ref x), .val (.ref y), .val (.int (0 : Int32)), .val (.int (5 : Int32)), .val (.ref y212), .val (.int (6 : Int32)), .unset, .unset] d_prog_10m3_47 rfl rfl ?_
      refine g_iload D212 51 d_prog_10m3_49 rfl rfl ?_
      refine g_aloadN D212 52 d_prog_10m3_51 rfl rfl rfl ?_
      refine g_callVp D212 55 (hw _ w_146) (hw _ w_78) (notFace_of_selects (args := #[]) (mvT D212.wm (hw _ w_80))) (hw _ w_80) (hw _ w_79) (by decide) (TS.lenB 1 D212 hw (LS.ts ((X_x.ext E211).ext E212)) (CS.ext ((OLD.ext E211).ext E212).2) hzc (by decide) (by decide)) (((X_x.ext E211).ext E212)).exa rfl [] rfl (lenOf pd_4 rfl) rfl (Nat.le_of_eq rfl) (by decide) (by decide) d_prog_10m3_52 rfl ?_
      intro v213 T213 q213 D213
      subst q213
      show Go p e below _ (T213.setTop (mkF m 55 #[.val (.ref x), .val (.ref y), .val (.int (0 : Int32)), .val (.int (5 : Int32)), .val (.ref y212), .val (.int (6 : Int32)), .unset, .unset] [(.int (6 : Int32)), (.int (6 : Int32))]))
      refine g_icmpY D213 126 d_prog_10m3_55 (by decide) (by decide) (by decide) ?_
      refine g_aloadN D213 127 d_prog_10m3_126 rfl rfl rfl ?_
      refine g_bipush D213 129 (59 : Int32) d_prog_10m3_127 rfl rfl ?_
      refine g_iload D213 131 d_prog_10m3_129 rfl rfl ?_
      refine g_callVp D213 134 (hw _ w_103) (hw _ w_68) (notFace_of_selects (args := #[]) (mvT D213.wm (hw _ w_70))) (hw _ w_70) (hw _ w_69) (by decide) ((cIX2 l Z a0 hw [] x (59 : Int32) zc 6 [(59 : Int32), (59 : Int32), (32 : Int32), la, (9 : Int32), (61 : Int32)] h212 n0 (Nat.le_trans (Nat.le_trans Z0 E211.1) E212.1) ((OLD.ext E211).ext E212) CS hzc ((X_x.ext E211).ext E212) (by decide) (Nat.le_of_ble_eq_true rfl)).back D213 0 (hw _ w_71) (hw _ w_6) (by decide) (by decide)) (((X_x.ext E211).ext E212)).exa rfl [(.int (59 : Int32)), (.int (6 : Int32))] rfl (lenOf pd_1 rfl) rfl (Nat.le_of_eq rfl) (by decide) (by decide) d_prog_10m3_131 rfl ?_
      intro v214 T214 q214 D214
      obtain ⟨r214, rfl, c214⟩ := q214
      obtain rfl : r214 = (-1 : Int32) := c214.no own_al0
      show Go p e below _ (T214.setTop (mkF m 134 #[.val (.ref x), .val (.ref y), .val (.int (0 : Int32)), .val (.int (5 : Int32)), .val (.ref y212), .val (.int (6 : Int32)), .unset, .unset] [(.int (-1 : Int32))]))
      refine g_istoreN D214 135 #[.val (.ref x), .val (.ref y), .val (.int (-1 : Int32)), .val (.int (5 : Int32)), .val (.ref y212), .val (.int (6 : Int32)), .unset, .unset] d_prog_10m3_134 rfl rfl ?_
      refine g_aloadN D214 136 d_prog_10m3_135 rfl rfl rfl ?_
      refine g_iload D214 138 d_prog_10m3_136 rfl rfl ?_
      refine g_iloadN D214 139 d_prog_10m3_138 rfl rfl ?_
      refine g_ifN D214 142 d_prog_10m3_139 (by decide) rfl ?_
      refine g_aloadN D214 143 d_prog_10m3_142 rfl rfl rfl ?_
      refine g_callVp D214 146 (hw _ w_146) (hw _ w_78) (notFace_of_selects (args := #[]) (mvT D214.wm (hw _ w_80))) (hw _ w_80) (hw _ w_79) (by decide) (TS.lenB 2 D214 hw (LS.ts ((X_x.ext E211).ext E212)) (CS.ext ((OLD.ext E211).ext E212).2) hzc (by decide) (by decide)) (((X_x.ext E211).ext E212)).exa rfl [] rfl (lenOf pd_4 rfl) rfl (Nat.le_of_eq rfl) (by decide) (by decide) d_prog_10m3_143 rfl ?_
      intro v215 T215 q215 D215
      subst q215
      show Go p e below _ (T215.setTop (mkF m 146 #[.val (.ref x), .val (.ref y), .val (.int (-1 : Int32)), .val (.int (5 : Int32)), .val (.ref y212), .val (.int (6 : Int32)), .unset, .unset] [(.int (6 : Int32)), (.int (6 : Int32)), (.ref x)]))
      refine g_goto D215 150 d_prog_10m3_146 (by decide) (by decide) ?_
      refine g_callVW D215 153 hEW (hw _ w_104) (hw _ w_105) (notFace_of_selects (args := #[]) (mvT D215.wm (hw _ w_107))) (hw _ w_107) (hw _ w_106) (hw _ w_6) (hw _ w_108) (by decide) (cSub0 l Z a0 hw [] x [(59 : Int32), (59 : Int32), (32 : Int32), la, (9 : Int32), (61 : Int32)] 6 zc fm h212 n0 (Nat.le_trans (Nat.le_trans Z0 E211.1) E212.1) hEW ((OLD.ext E211).ext E212) CS hzc SFm rfm ((X_x.ext E211).ext E212) (Nat.le_of_ble_eq_true rfl) (Nat.le_of_ble_eq_true rfl) (by decide)) (((X_x.ext E211).ext E212)).exa rfl [(.int (6 : Int32)), (.int (6 : Int32))] rfl (lenOf pd_22 rfl) rfl 0 (Nat.le_of_eq rfl) (by decide) (by decide) (by decide) (by decide) d_prog_10m3_150 rfl ?_
      intro v216 s216 T216 h216 L216 q216 SF216 D216
      obtain ⟨y216, rfl, N216, E216, X216⟩ := q216
      have NF216 := Fr.app NF212 N216
      show Go p e below _ (T216.setTop (mkF m 153 #[.val (.ref x), .val (.ref y), .val (.int (-1 : Int32)), .val (.int (5 : Int32)), .val (.ref y212), .val (.int (6 : Int32)), .unset, .unset] [(.ref y216)]))
      refine g_callVp D216 156 (hw _ w_137) (hw _ w_138) (notFace_of_selects (args := #[]) (mvT D216.wm (hw _ w_140))) (hw _ w_140) (hw _ w_139) (by decide) ((cTr_0 l Z a0 hw [] y216 zc h216 n0 (Nat.le_trans (Nat.le_trans (Nat.le_trans Z0 E211.1) E212.1) E216.1) (((OLD.ext E211).ext E212).ext E216) CS hzc X216).back D216 0 (hw _ w_141) (hw _ w_6) (by decide) (by decide)) (X216).exa rfl [] rfl (lenOf pd_23 rfl) rfl (Nat.le_of_eq rfl) (by decide) (by decide) d_prog_10m3_153 rfl ?_
      intro v217 T217 q217 D217
      subst q217
      show Go p e below _ (T217.setTop (mkF m 156 #[.val (.ref x), .val (.ref y), .val (.int (-1 : Int32)), .val (.int (5 : Int32)), .val (.ref y212), .val (.int (6 : Int32)), .unset, .unset] [(.ref y216)]))
      refine g_astore D217 158 #[.val (.ref x), .val (.ref y), .val (.int (-1 : Int32)), .val (.int (5 : Int32)), .val (.ref y212), .val (.int (6 : Int32)), .val (.ref y216), .unset] d_prog_10m3_156 rfl rfl rfl ?_
      refine g_aload D217 160 d_prog_10m3_158 rfl rfl rfl ?_
      refine g_aloadN D217 161 d_prog_10m3_160 rfl rfl rfl ?_
      refine g_callVp D217 164 (hw _ w_161) (hw _ w_162) (notFace_of_selects (args := #[]) (mvT D217.wm (hw _ w_164))) (hw _ w_164) (hw _ w_163) (by decide) ((cEI3 l Z a0 hw [] y212 y _ _ _ lq zc h216 n0 (Nat.le_trans (Nat.le_trans (Nat.le_trans Z0 E211.1) E212.1) E216.1) (((OLD.ext E211).ext E212).ext E216) CS hzc (X212.ext E216) (((X_y.ext E211).ext E212).ext E216) ne212).back D217 0 (hw _ w_165) (hw _ w_6) (by decide) (by decide)) ((X212.ext E216)).exa rfl [(.ref y)] rfl (lenOf pd_24 rfl) rfl (Nat.le_of_eq rfl) (by decide) (by decide) d_prog_10m3_161 rfl ?_
      intro v218 T218 q218 D218
      subst q218
      show Go p e below _ (T218.setTop (mkF m 164 #[.val (.ref x), .val (.ref y), .val (.int (-1 : Int32)), .val (.int (5 : Int32)), .val (.ref y212), .val (.int (6 : Int32)), .val (.ref y216), .unset] [(.int (0 : Int32))]))
      refine g_ifY D218 170 d_prog_10m3_164 (by decide) (by decide) (by decide) ?_
      refine g_goto D218 13 d_prog_10m3_170 (by decide) (by decide) ?_
      refine g_iloadN D218 14 d_prog_10m3_13 rfl rfl ?_
      refine g_ifY D218 173 d_prog_10m3_14 (by decide) (by decide) (by decide) ?_
      refine g_aconst D218 174 d_prog_10m3_173 rfl ?_
      exact r_Aw D218 hEW hret rfl rfl hlk d_prog_10m3_174 ⟨.null, rfl, NF216, Keep.toExt ((((Keep.refl _ []).ext E211).ext E212).ext E216), (by rw [if_neg (fun g => absurd rfl g.2.1)]; exact rfl)⟩ (by decide) (by decide)
    show Go p e below _ (s₁.setTop (mkF m 0 #[.val (.ref x), .val (.ref y), .unset, .unset, .unset, .unset, .unset, .unset] []))
    refine g_aloadN D0 1 d_prog_10m3_0 rfl rfl rfl ?_
    refine g_nnY D0 6 d_prog_10m3_1 (by decide) (by decide) ?_
    refine g_aloadN D0 7 d_prog_10m3_6 rfl rfl rfl ?_
    refine g_bipush D0 9 (59 : Int32) d_prog_10m3_7 rfl rfl ?_
    refine g_callVp D0 12 (hw _ w_62) (hw _ w_63) (notFace_of_selects (args := #[]) (mvT D0.wm (hw _ w_65))) (hw _ w_65) (hw _ w_64) (by decide) ((cIX1 l Z a0 hw [] x (59 : Int32) zc [(59 : Int32), (59 : Int32), (32 : Int32), la, (9 : Int32), ce] h0 n0 Z0 OLD CS hzc X_x (by decide)).back D0 0 (hw _ w_66) (hw _ w_6) (by decide) (by decide)) (X_x).exa rfl [(.int (59 : Int32))] rfl (lenOf pd_21 rfl) rfl (Nat.le_of_eq rfl) (by decide) (by decide) d_prog_10m3_9 rfl ?_
    intro v219 T219 q219 D219
    obtain ⟨r219, rfl, c219⟩ := q219
    obtain rfl : r219 = (0 : Int32) := c219.is (j := 0) (by decide) (Nat.le_of_ble_eq_true rfl : 1 ≤ List.length [(59 : Int32), (59 : Int32), (32 : Int32), la, (9 : Int32), ce]) rfl own_al0
    show Go p e below _ (T219.setTop (mkF m 12 #[.val (.ref x), .val (.ref y), .unset, .unset, .unset, .unset, .unset, .unset] [(.int (0 : Int32))]))
    refine g_istoreN D219 13 #[.val (.ref x), .val (.ref y), .val (.int (0 : Int32)), .unset, .unset, .unset, .unset, .unset] d_prog_10m3_12 rfl rfl ?_
    refine g_iloadN D219 14 d_prog_10m3_13 rfl rfl ?_
    refine g_ifN D219 17 d_prog_10m3_14 (by decide) rfl ?_
    refine g_aloadN D219 18 d_prog_10m3_17 rfl rfl rfl ?_
    refine g_bipush D219 20 (61 : Int32) d_prog_10m3_18 rfl rfl ?_
    refine g_iloadN D219 21 d_prog_10m3_20 rfl rfl ?_
    refine g_callVp D219 24 (hw _ w_103) (hw _ w_68) (notFace_of_selects (args := #[]) (mvT D219.wm (hw _ w_70))) (hw _ w_70) (hw _ w_69) (by decide) ((cIX2 l Z a0 hw [] x (61 : Int32) zc 0 [(59 : Int32), (59 : Int32), (32 : Int32), la, (9 : Int32), ce] h0 n0 Z0 OLD CS hzc X_x (by decide) (Nat.le_of_ble_eq_true rfl)).back D219 0 (hw _ w_71) (hw _ w_6) (by decide) (by decide)) (X_x).exa rfl [(.int (61 : Int32)), (.int (0 : Int32))] rfl (lenOf pd_1 rfl) rfl (Nat.le_of_eq rfl) (by decide) (by decide) d_prog_10m3_21 rfl ?_
    intro v220 T220 q220 D220
    obtain ⟨r220, rfl, c220⟩ := q220
    obtain rfl : r220 = (-1 : Int32) := c220.no (own_alS (show ¬ (59 : Int32) = (61 : Int32) by decide) (own_alS (show ¬ (59 : Int32) = (61 : Int32) by decide) (own_alS (show ¬ (32 : Int32) = (61 : Int32) by decide) (own_alS (own_isln hla).2.1 (own_alS (show ¬ (9 : Int32) = (61 : Int32) by decide) (own_alS he own_al0))))))
    show Go p e below _ (T220.setTop (mkF m 24 #[.val (.ref x), .val (.ref y), .val (.int (0 : Int32)), .unset, .unset, .unset, .unset, .unset] [(.int (-1 : Int32))]))
    refine g_istoreN D220 25 #[.val (.ref x), .val (.ref y), .val (.int (0 : Int32)), .val (.int (-1 : Int32)), .unset, .unset, .unset, .unset] d_prog_10m3_24 rfl rfl ?_
    refine g_iloadN D220 26 d_prog_10m3_25 rfl rfl ?_
    refine g_ifN D220 29 d_prog_10m3_26 (by decide) rfl ?_
    refine g_aconst D220 30 d_prog_10m3_29 rfl ?_
    exact r_Aw D220 hEW hret rfl rfl hlk d_prog_10m3_30 ⟨.null, rfl, (Fr.nil n0), Keep.toExt (Keep.refl _ []), (by rw [if_neg (fun g => absurd rfl g.2.1)]; exact rfl)⟩ (by decide) (by decide)
  by_cases he : ce = (61 : Int32)
  · subst he
    show Go p e below _ (s₁.setTop (mkF m 0 #[.val (.ref x), .val (.ref y), .unset, .unset, .unset, .unset, .unset, .unset] []))
    refine g_aloadN D0 1 d_prog_10m3_0 rfl rfl rfl ?_
    refine g_nnY D0 6 d_prog_10m3_1 (by decide) (by decide) ?_
    refine g_aloadN D0 7 d_prog_10m3_6 rfl rfl rfl ?_
    refine g_bipush D0 9 (59 : Int32) d_prog_10m3_7 rfl rfl ?_
    refine g_callVp D0 12 (hw _ w_62) (hw _ w_63) (notFace_of_selects (args := #[]) (mvT D0.wm (hw _ w_65))) (hw _ w_65) (hw _ w_64) (by decide) ((cIX1 l Z a0 hw [] x (59 : Int32) zc [c0, (59 : Int32), (32 : Int32), la, (9 : Int32), (61 : Int32)] h0 n0 Z0 OLD CS hzc X_x (by decide)).back D0 0 (hw _ w_66) (hw _ w_6) (by decide) (by decide)) (X_x).exa rfl [(.int (59 : Int32))] rfl (lenOf pd_21 rfl) rfl (Nat.le_of_eq rfl) (by decide) (by decide) d_prog_10m3_9 rfl ?_
    intro v221 T221 q221 D221
    obtain ⟨r221, rfl, c221⟩ := q221
    obtain rfl : r221 = (1 : Int32) := c221.is (j := 1) (by decide) (Nat.le_of_ble_eq_true rfl : 2 ≤ List.length [c0, (59 : Int32), (32 : Int32), la, (9 : Int32), (61 : Int32)]) rfl (own_alS hz own_al0)
    show Go p e below _ (T221.setTop (mkF m 12 #[.val (.ref x), .val (.ref y), .unset, .unset, .unset, .unset, .unset, .unset] [(.int (1 : Int32))]))
    refine g_istoreN D221 13 #[.val (.ref x), .val (.ref y), .val (.int (1 : Int32)), .unset, .unset, .unset, .unset, .unset] d_prog_10m3_12 rfl rfl ?_
    refine g_iloadN D221 14 d_prog_10m3_13 rfl rfl ?_
    refine g_ifN D221 17 d_prog_10m3_14 (by decide) rfl ?_
    refine g_aloadN D221 18 d_prog_10m3_17 rfl rfl rfl ?_
    refine g_bipush D221 20 (61 : Int32) d_prog_10m3_18 rfl rfl ?_
    refine g_iloadN D221 21 d_prog_10m3_20 rfl rfl ?_
    refine g_callVp D221 24 (hw _ w_103) (hw _ w_68) (notFace_of_selects (args := #[]) (mvT D221.wm (hw _ w_70))) (hw _ w_70) (hw _ w_69) (by decide) ((cIX2 l Z a0 hw [] x (61 : Int32) zc 1 [c0, (59 : Int32), (32 : Int32), la, (9 : Int32), (61 : Int32)] h0 n0 Z0 OLD CS hzc X_x (by decide) (Nat.le_of_ble_eq_true rfl)).back D221 0 (hw _ w_71) (hw _ w_6) (by decide) (by decide)) (X_x).exa rfl [(.int (61 : Int32)), (.int (1 : Int32))] rfl (lenOf pd_1 rfl) rfl (Nat.le_of_eq rfl) (by decide) (by decide) d_prog_10m3_21 rfl ?_
    intro v222 T222 q222 D222
    obtain ⟨r222, rfl, c222⟩ := q222
    obtain rfl : r222 = (5 : Int32) := c222.is (j := 5) (by decide) (Nat.le_of_ble_eq_true rfl : 6 ≤ List.length [c0, (59 : Int32), (32 : Int32), la, (9 : Int32), (61 : Int32)]) rfl (own_alS (show ¬ (59 : Int32) = (61 : Int32) by decide) (own_alS (show ¬ (32 : Int32) = (61 : Int32) by decide) (own_alS (own_isln hla).2.1 (own_alS (show ¬ (9 : Int32) = (61 : Int32) by decide) own_al0))))
    show Go p e below _ (T222.setTop (mkF m 24 #[.val (.ref x), .val (.ref y), .val (.int (1 : Int32)), .unset, .unset, .unset, .unset, .unset] [(.int (5 : Int32))]))
    refine g_istoreN D222 25 #[.val (.ref x), .val (.ref y), .val (.int (1 : Int32)), .val (.int (5 : Int32)), .unset, .unset, .unset, .unset] d_prog_10m3_24 rfl rfl ?_
    refine g_iloadN D222 26 d_prog_10m3_25 rfl rfl ?_
    refine g_ifY D222 31 d_prog_10m3_26 (by decide) (by decide) (by decide) ?_
    refine g_aloadN D222 32 d_prog_10m3_31 rfl rfl rfl ?_
    refine g_iloadN D222 33 d_prog_10m3_32 rfl rfl ?_
    refine g_iconst D222 34 (1 : Int32) d_prog_10m3_33 rfl rfl ?_
    refine g_iadd D222 35 d_prog_10m3_34 rfl ?_
    rw [show ((1 : Int32) + (1 : Int32)) = (2 : Int32) from by decide]
    refine g_iloadN D222 36 d_prog_10m3_35 rfl rfl ?_
    refine g_callV D222 39 (hw _ w_104) (hw _ w_105) (notFace_of_selects (args := #[]) (mvT D222.wm (hw _ w_107))) (hw _ w_107) (hw _ w_106) (by decide) ((cSub l Z a0 hw [] x [c0, (59 : Int32), (32 : Int32), la, (9 : Int32), (61 : Int32)] 2 5 zc fm h0 n0 Z0 OLD CS hzc SFm rfm X_x (by decide) (Nat.le_of_ble_eq_true rfl) (Nat.le_of_ble_eq_true rfl) (by decide)).back D222 0 (hw _ w_108) (hw _ w_6) (by decide) (by decide)) (X_x).exa rfl [(.int (2 : Int32)), (.int (5 : Int32))] rfl (lenOf pd_22 rfl) rfl (Nat.le_of_eq rfl) (by decide) (by decide) (fun _ _ _ q => by obtain ⟨_, _, _, _, E, _⟩ := q; exact D222.iv.ext E) d_prog_10m3_36 rfl ?_
    intro v223 T223 h223 L223 q223 D223
    obtain ⟨y223, rfl, g223, N223, E223, X223⟩ := q223
    have NF223 := Fr.app (Fr.nil n0) N223
    replace X223 : LS Z h223 y223 [(32 : Int32), la, (9 : Int32)] := X223
    show Go p e below _ (T223.setTop (mkF m 39 #[.val (.ref x), .val (.ref y), .val (.int (1 : Int32)), .val (.int (5 : Int32)), .unset, .unset, .unset, .unset] [(.ref y223)]))
    refine g_callV D223 42 (hw _ w_137) (hw _ w_138) (notFace_of_selects (args := #[]) (mvT D223.wm (hw _ w_140))) (hw _ w_140) (hw _ w_139) (by decide) ((cTr_n3 l Z a0 hw [] y223 zc la h223 n0 (Nat.le_trans Z0 E223.1) (OLD.ext E223) CS hzc X223 (own_isln hla).2.2).back D223 0 (hw _ w_141) (hw _ w_6) (by decide) (by decide)) (X223).exa rfl [] rfl (lenOf pd_23 rfl) rfl (Nat.le_of_eq rfl) (by decide) (by decide) (fun _ _ _ q => by obtain ⟨_, _, _, _, E, _⟩ := q; exact D223.iv.ext E) d_prog_10m3_39 rfl ?_
    intro v224 T224 h224 L224 q224 D224
    obtain ⟨y224, rfl, g224, N224, E224, X224⟩ := q224
    have NF224 := Fr.app NF223 N224
    rw [own_t3 (own_isln hla).2.2] at X224
    have ne224 : y224 ≠ y := Nat.ne_of_gt (Nat.lt_of_lt_of_le (X_y.ext E223).lt g224)
    show Go p e below _ (T224.setTop (mkF m 42 #[.val (.ref x), .val (.ref y), .val (.int (1 : Int32)), .val (.int (5 : Int32)), .unset, .unset, .unset, .unset] [(.ref y224)]))
    refine g_astore D224 44 #[.val (.ref x), .val (.ref y), .val (.int (1 : Int32)), .val (.int (5 : Int32)), .val (.ref y224), .unset, .unset, .unset] d_prog_10m3_42 rfl rfl rfl ?_
    refine g_iloadN D224 45 d_prog_10m3_44 rfl rfl ?_
    refine g_iconst D224 46 (1 : Int32) d_prog_10m3_45 rfl rfl ?_
    refine g_iadd D224 47 d_prog_10m3_46 rfl ?_
    rw [show ((5 : Int32) + (1 : Int32)) = (6 : Int32) from by decide]
    refine g_istore D224 49 #[.val (.ref x), .val (.ref y), .val (.int (1 : Int32)), .val (.int (5 : Int32)), .val (.ref y224), .val (.int (6 : Int32)), .unset, .unset] d_prog_10m3_47 rfl rfl ?_
    refine g_iload D224 51 d_prog_10m3_49 rfl rfl ?_
    refine g_aloadN D224 52 d_prog_10m3_51 rfl rfl rfl ?_
    refine g_callVp D224 55 (hw _ w_146) (hw _ w_78) (notFace_of_selects (args := #[]) (mvT D224.wm (hw _ w_80))) (hw _ w_80) (hw _ w_79) (by decide) (TS.lenB 1 D224 hw (LS.ts ((X_x.ext E223).ext E224)) (CS.ext ((OLD.ext E223).ext E224).2) hzc (by decide) (by decide)) (((X_x.ext E223).ext E224)).exa rfl [] rfl (lenOf pd_4 rfl) rfl (Nat.le_of_eq rfl) (by decide) (by decide) d_prog_10m3_52 rfl ?_
    intro v225 T225 q225 D225
    subst q225
    show Go p e below _ (T225.setTop (mkF m 55 #[.val (.ref x), .val (.ref y), .val (.int (1 : Int32)), .val (.int (5 : Int32)), .val (.ref y224), .val (.int (6 : Int32)), .unset, .unset] [(.int (6 : Int32)), (.int (6 : Int32))]))
    refine g_icmpY D225 126 d_prog_10m3_55 (by decide) (by decide) (by decide) ?_
    refine g_aloadN D225 127 d_prog_10m3_126 rfl rfl rfl ?_
    refine g_bipush D225 129 (59 : Int32) d_prog_10m3_127 rfl rfl ?_
    refine g_iload D225 131 d_prog_10m3_129 rfl rfl ?_
    refine g_callVp D225 134 (hw _ w_103) (hw _ w_68) (notFace_of_selects (args := #[]) (mvT D225.wm (hw _ w_70))) (hw _ w_70) (hw _ w_69) (by decide) ((cIX2 l Z a0 hw [] x (59 : Int32) zc 6 [c0, (59 : Int32), (32 : Int32), la, (9 : Int32), (61 : Int32)] h224 n0 (Nat.le_trans (Nat.le_trans Z0 E223.1) E224.1) ((OLD.ext E223).ext E224) CS hzc ((X_x.ext E223).ext E224) (by decide) (Nat.le_of_ble_eq_true rfl)).back D225 0 (hw _ w_71) (hw _ w_6) (by decide) (by decide)) (((X_x.ext E223).ext E224)).exa rfl [(.int (59 : Int32)), (.int (6 : Int32))] rfl (lenOf pd_1 rfl) rfl (Nat.le_of_eq rfl) (by decide) (by decide) d_prog_10m3_131 rfl ?_
    intro v226 T226 q226 D226
    obtain ⟨r226, rfl, c226⟩ := q226
    obtain rfl : r226 = (-1 : Int32) := c226.no own_al0
    show Go p e below _ (T226.setTop (mkF m 134 #[.val (.ref x), .val (.ref y), .val (.int (1 : Int32)), .val (.int (5 : Int32)), .val (.ref y224), .val (.int (6 : Int32)), .unset, .unset] [(.int (-1 : Int32))]))
    refine g_istoreN D226 135 #[.val (.ref x), .val (.ref y), .val (.int (-1 : Int32)), .val (.int (5 : Int32)), .val (.ref y224), .val (.int (6 : Int32)), .unset, .unset] d_prog_10m3_134 rfl rfl ?_
    refine g_aloadN D226 136 d_prog_10m3_135 rfl rfl rfl ?_
    refine g_iload D226 138 d_prog_10m3_136 rfl rfl ?_
    refine g_iloadN D226 139 d_prog_10m3_138 rfl rfl ?_
    refine g_ifN D226 142 d_prog_10m3_139 (by decide) rfl ?_
    refine g_aloadN D226 143 d_prog_10m3_142 rfl rfl rfl ?_
    refine g_callVp D226 146 (hw _ w_146) (hw _ w_78) (notFace_of_selects (args := #[]) (mvT D226.wm (hw _ w_80))) (hw _ w_80) (hw _ w_79) (by decide) (TS.lenB 2 D226 hw (LS.ts ((X_x.ext E223).ext E224)) (CS.ext ((OLD.ext E223).ext E224).2) hzc (by decide) (by decide)) (((X_x.ext E223).ext E224)).exa rfl [] rfl (lenOf pd_4 rfl) rfl (Nat.le_of_eq rfl) (by decide) (by decide) d_prog_10m3_143 rfl ?_
    intro v227 T227 q227 D227
    subst q227
    show Go p e below _ (T227.setTop (mkF m 146 #[.val (.ref x), .val (.ref y), .val (.int (-1 : Int32)), .val (.int (5 : Int32)), .val (.ref y224), .val (.int (6 : Int32)), .unset, .unset] [(.int (6 : Int32)), (.int (6 : Int32)), (.ref x)]))
    refine g_goto D227 150 d_prog_10m3_146 (by decide) (by decide) ?_
    refine g_callVW D227 153 hEW (hw _ w_104) (hw _ w_105) (notFace_of_selects (args := #[]) (mvT D227.wm (hw _ w_107))) (hw _ w_107) (hw _ w_106) (hw _ w_6) (hw _ w_108) (by decide) (cSub0 l Z a0 hw [] x [c0, (59 : Int32), (32 : Int32), la, (9 : Int32), (61 : Int32)] 6 zc fm h224 n0 (Nat.le_trans (Nat.le_trans Z0 E223.1) E224.1) hEW ((OLD.ext E223).ext E224) CS hzc SFm rfm ((X_x.ext E223).ext E224) (Nat.le_of_ble_eq_true rfl) (Nat.le_of_ble_eq_true rfl) (by decide)) (((X_x.ext E223).ext E224)).exa rfl [(.int (6 : Int32)), (.int (6 : Int32))] rfl (lenOf pd_22 rfl) rfl 0 (Nat.le_of_eq rfl) (by decide) (by decide) (by decide) (by decide) d_prog_10m3_150 rfl ?_
    intro v228 s228 T228 h228 L228 q228 SF228 D228
    obtain ⟨y228, rfl, N228, E228, X228⟩ := q228
    have NF228 := Fr.app NF224 N228
    show Go p e below _ (T228.setTop (mkF m 153 #[.val (.ref x), .val (.ref y), .val (.int (-1 : Int32)), .val (.int (5 : Int32)), .val (.ref y224), .val (.int (6 : Int32)), .unset, .unset] [(.ref y228)]))
    refine g_callVp D228 156 (hw _ w_137) (hw _ w_138) (notFace_of_selects (args := #[]) (mvT D228.wm (hw _ w_140))) (hw _ w_140) (hw _ w_139) (by decide) ((cTr_0 l Z a0 hw [] y228 zc h228 n0 (Nat.le_trans (Nat.le_trans (Nat.le_trans Z0 E223.1) E224.1) E228.1) (((OLD.ext E223).ext E224).ext E228) CS hzc X228).back D228 0 (hw _ w_141) (hw _ w_6) (by decide) (by decide)) (X228).exa rfl [] rfl (lenOf pd_23 rfl) rfl (Nat.le_of_eq rfl) (by decide) (by decide) d_prog_10m3_153 rfl ?_
    intro v229 T229 q229 D229
    subst q229
    show Go p e below _ (T229.setTop (mkF m 156 #[.val (.ref x), .val (.ref y), .val (.int (-1 : Int32)), .val (.int (5 : Int32)), .val (.ref y224), .val (.int (6 : Int32)), .unset, .unset] [(.ref y228)]))
    refine g_astore D229 158 #[.val (.ref x), .val (.ref y), .val (.int (-1 : Int32)), .val (.int (5 : Int32)), .val (.ref y224), .val (.int (6 : Int32)), .val (.ref y228), .unset] d_prog_10m3_156 rfl rfl rfl ?_
    refine g_aload D229 160 d_prog_10m3_158 rfl rfl rfl ?_
    refine g_aloadN D229 161 d_prog_10m3_160 rfl rfl rfl ?_
    refine g_callVp D229 164 (hw _ w_161) (hw _ w_162) (notFace_of_selects (args := #[]) (mvT D229.wm (hw _ w_164))) (hw _ w_164) (hw _ w_163) (by decide) ((cEI1 l Z a0 hw [] y224 y la lq zc h228 n0 (Nat.le_trans (Nat.le_trans (Nat.le_trans Z0 E223.1) E224.1) E228.1) (((OLD.ext E223).ext E224).ext E228) CS hzc (X224.ext E228) (((X_y.ext E223).ext E224).ext E228) hla hlq ne224).back D229 0 (hw _ w_165) (hw _ w_6) (by decide) (by decide)) ((X224.ext E228)).exa rfl [(.ref y)] rfl (lenOf pd_24 rfl) rfl (Nat.le_of_eq rfl) (by decide) (by decide) d_prog_10m3_161 rfl ?_
    intro v230 T230 q230 D230
    subst q230
    show Go p e below _ (T230.setTop (mkF m 164 #[.val (.ref x), .val (.ref y), .val (.int (-1 : Int32)), .val (.int (5 : Int32)), .val (.ref y224), .val (.int (6 : Int32)), .val (.ref y228), .unset] [(.int (own_ci la lq))]))
    by_cases kk : (own_ci la lq) = (0 : Int32)
    · refine g_ifY D230 170 d_prog_10m3_164 (teq kk).1 (by decide) (by decide) ?_
      refine g_goto D230 13 d_prog_10m3_170 (by decide) (by decide) ?_
      refine g_iloadN D230 14 d_prog_10m3_13 rfl rfl ?_
      refine g_ifY D230 173 d_prog_10m3_14 (by decide) (by decide) (by decide) ?_
      refine g_aconst D230 174 d_prog_10m3_173 rfl ?_
      exact r_Aw D230 hEW hret rfl rfl hlk d_prog_10m3_174 ⟨.null, rfl, NF228, Keep.toExt ((((Keep.refl _ []).ext E223).ext E224).ext E228), (by rw [if_neg (fun g => g.2.2 kk)]; exact rfl)⟩ (by decide) (by decide)
    refine g_ifN D230 167 d_prog_10m3_164 (feq kk).1 rfl ?_
    refine g_aload D230 169 d_prog_10m3_167 rfl rfl rfl ?_
    exact r_Aw D230 hEW hret rfl rfl hlk d_prog_10m3_169 ⟨.ref y228, rfl, NF228, Keep.toExt ((((Keep.refl _ []).ext E223).ext E224).ext E228), (by rw [if_pos ⟨rfl, hz, kk⟩]; exact ⟨_, rfl, X228⟩)⟩ (by decide) (by decide)
  show Go p e below _ (s₁.setTop (mkF m 0 #[.val (.ref x), .val (.ref y), .unset, .unset, .unset, .unset, .unset, .unset] []))
  refine g_aloadN D0 1 d_prog_10m3_0 rfl rfl rfl ?_
  refine g_nnY D0 6 d_prog_10m3_1 (by decide) (by decide) ?_
  refine g_aloadN D0 7 d_prog_10m3_6 rfl rfl rfl ?_
  refine g_bipush D0 9 (59 : Int32) d_prog_10m3_7 rfl rfl ?_
  refine g_callVp D0 12 (hw _ w_62) (hw _ w_63) (notFace_of_selects (args := #[]) (mvT D0.wm (hw _ w_65))) (hw _ w_65) (hw _ w_64) (by decide) ((cIX1 l Z a0 hw [] x (59 : Int32) zc [c0, (59 : Int32), (32 : Int32), la, (9 : Int32), ce] h0 n0 Z0 OLD CS hzc X_x (by decide)).back D0 0 (hw _ w_66) (hw _ w_6) (by decide) (by decide)) (X_x).exa rfl [(.int (59 : Int32))] rfl (lenOf pd_21 rfl) rfl (Nat.le_of_eq rfl) (by decide) (by decide) d_prog_10m3_9 rfl ?_
  intro v231 T231 q231 D231
  obtain ⟨r231, rfl, c231⟩ := q231
  obtain rfl : r231 = (1 : Int32) := c231.is (j := 1) (by decide) (Nat.le_of_ble_eq_true rfl : 2 ≤ List.length [c0, (59 : Int32), (32 : Int32), la, (9 : Int32), ce]) rfl (own_alS hz own_al0)
  show Go p e below _ (T231.setTop (mkF m 12 #[.val (.ref x), .val (.ref y), .unset, .unset, .unset, .unset, .unset, .unset] [(.int (1 : Int32))]))
  refine g_istoreN D231 13 #[.val (.ref x), .val (.ref y), .val (.int (1 : Int32)), .unset, .unset, .unset, .unset, .unset] d_prog_10m3_12 rfl rfl ?_
  refine g_iloadN D231 14 d_prog_10m3_13 rfl rfl ?_
  refine g_ifN D231 17 d_prog_10m3_14 (by decide) rfl ?_
  refine g_aloadN D231 18 d_prog_10m3_17 rfl rfl rfl ?_
  refine g_bipush D231 20 (61 : Int32) d_prog_10m3_18 rfl rfl ?_
  refine g_iloadN D231 21 d_prog_10m3_20 rfl rfl ?_
  refine g_callVp D231 24 (hw _ w_103) (hw _ w_68) (notFace_of_selects (args := #[]) (mvT D231.wm (hw _ w_70))) (hw _ w_70) (hw _ w_69) (by decide) ((cIX2 l Z a0 hw [] x (61 : Int32) zc 1 [c0, (59 : Int32), (32 : Int32), la, (9 : Int32), ce] h0 n0 Z0 OLD CS hzc X_x (by decide) (Nat.le_of_ble_eq_true rfl)).back D231 0 (hw _ w_71) (hw _ w_6) (by decide) (by decide)) (X_x).exa rfl [(.int (61 : Int32)), (.int (1 : Int32))] rfl (lenOf pd_1 rfl) rfl (Nat.le_of_eq rfl) (by decide) (by decide) d_prog_10m3_21 rfl ?_
  intro v232 T232 q232 D232
  obtain ⟨r232, rfl, c232⟩ := q232
  obtain rfl : r232 = (-1 : Int32) := c232.no (own_alS (show ¬ (59 : Int32) = (61 : Int32) by decide) (own_alS (show ¬ (32 : Int32) = (61 : Int32) by decide) (own_alS (own_isln hla).2.1 (own_alS (show ¬ (9 : Int32) = (61 : Int32) by decide) (own_alS he own_al0)))))
  show Go p e below _ (T232.setTop (mkF m 24 #[.val (.ref x), .val (.ref y), .val (.int (1 : Int32)), .unset, .unset, .unset, .unset, .unset] [(.int (-1 : Int32))]))
  refine g_istoreN D232 25 #[.val (.ref x), .val (.ref y), .val (.int (1 : Int32)), .val (.int (-1 : Int32)), .unset, .unset, .unset, .unset] d_prog_10m3_24 rfl rfl ?_
  refine g_iloadN D232 26 d_prog_10m3_25 rfl rfl ?_
  refine g_ifN D232 29 d_prog_10m3_26 (by decide) rfl ?_
  refine g_aconst D232 30 d_prog_10m3_29 rfl ?_
  exact r_Aw D232 hEW hret rfl rfl hlk d_prog_10m3_30 ⟨.null, rfl, (Fr.nil n0), Keep.toExt (Keep.refl _ []), (by rw [if_neg (fun g => he g.1)]; exact rfl)⟩ (by decide) (by decide)
theorem cTn (l : Launch) (Z : State) (a0 : Array Value) (hw : tHW Z a0) (x y : Addr) (c0 la c6 c7 c8 c9 lb c14 c15 c16 c17 lq zc : Int32) (fm : Value) (v2 : List Int32) (hB h0 : Heap) (n0 : Nat) (Z0 : n0 ≤ h0.size) (hEW : EW Z a0 consts_1) (E0 : Ext hB h0) (OLD : Old Z n0 h0) (CS : tCS Z zc) (hzc : ¬ zc = 0) (SFm : tSF Z fm) (rfm : fm.isRef = true) (X_x : LS Z h0 x [c0, (59 : Int32), (32 : Int32), la, (9 : Int32), (61 : Int32), c6, c7, c8, c9, (59 : Int32), lb, (32 : Int32), (61 : Int32), c14, c15, c16, c17]) (X_y : LS Z h0 y [lq]) (hla : own_isl la) (hlq : own_isl lq) (hlb : own_isl lb) (hH2 : own_H2 c14 c15 c16 c17 v2) (o : Option (List Int32)) (ho : o = (if ¬ own_ci lb lq = 0 then some v2 else none)) (p : Program) (e : Env) (s : State) (m : MethodId) (below : List Frame) (meth : Method) (c : Code) (s' T0 : State) (as' : Array Value) (L0 : List Loc) (hret : meth.sig.returnType = some (.object "java/lang/String")) (hlk : meth.locks = false) (N_ : Fr n0 L0) (n4 n6 : Addr) (sl7 : Slot) (h7 : sl7 = .unset ∨ sl7 = .val (.int (9 : Int32))) (D0 : Wk p l e ({ frames := 6, cells := 16, slots := 176, locals := 160 } : Room) m as' below meth c "com/example/same_answer/sameanswer/MediaType" prog_10_method_3_code 8 Z (WI Z consts_1 s) s' T0 L0 8 88 h0) :
    Go p e below (WG Z consts_1 s (own_QP Z hB n0 o) 16 176) (T0.setTop (mkF m 13 #[.val (.ref x), .val (.ref y), .val (.int (10 : Int32)), .val (.int (5 : Int32)), .val (.ref n4), .val (.int (6 : Int32)), .val (.ref n6), sl7] [])) := by
  rcases hH2 with ⟨a1, a2, a3, a4, a5, rfl⟩ | ⟨rfl, rfl, a3, a4, rfl⟩ | ⟨rfl, a2, a3, a4, rfl⟩
  · show Go p e below _ (T0.setTop (mkF m 13 #[.val (.ref x), .val (.ref y), .val (.int (10 : Int32)), .val (.int (5 : Int32)), .val (.ref n4), .val (.int (6 : Int32)), .val (.ref n6), sl7] []))
    refine g_iloadN D0 14 d_prog_10m3_13 rfl rfl ?_
    refine g_ifN D0 17 d_prog_10m3_14 (by decide) rfl ?_
    refine g_aloadN D0 18 d_prog_10m3_17 rfl rfl rfl ?_
    refine g_bipush D0 20 (61 : Int32) d_prog_10m3_18 rfl rfl ?_
    refine g_iloadN D0 21 d_prog_10m3_20 rfl rfl ?_
    refine g_callVp D0 24 (hw _ w_103) (hw _ w_68) (notFace_of_selects (args := #[]) (mvT D0.wm (hw _ w_70))) (hw _ w_70) (hw _ w_69) (by decide) ((cIX2 l Z a0 hw [] x (61 : Int32) zc 10 [c0, (59 : Int32), (32 : Int32), la, (9 : Int32), (61 : Int32), c6, c7, c8, c9, (59 : Int32), lb, (32 : Int32), (61 : Int32), c14, c15, c16, c17] h0 n0 Z0 OLD CS hzc X_x (by decide) (Nat.le_of_ble_eq_true rfl)).back D0 0 (hw _ w_71) (hw _ w_6) (by decide) (by decide)) (X_x).exa rfl [(.int (61 : Int32)), (.int (10 : Int32))] rfl (lenOf pd_1 rfl) rfl (Nat.le_of_eq rfl) (by decide) (by decide) d_prog_10m3_21 rfl ?_
    intro v233 T233 q233 D233
    obtain ⟨r233, rfl, c233⟩ := q233
    obtain rfl : r233 = (13 : Int32) := c233.is (j := 13) (by decide) (Nat.le_of_ble_eq_true rfl : 14 ≤ List.length [c0, (59 : Int32), (32 : Int32), la, (9 : Int32), (61 : Int32), c6, c7, c8, c9, (59 : Int32), lb, (32 : Int32), (61 : Int32), c14, c15, c16, c17]) rfl (own_alS (show ¬ (59 : Int32) = (61 : Int32) by decide) (own_alS (own_isln hlb).2.1 (own_alS (show ¬ (32 : Int32) = (61 : Int32) by decide) own_al0)))
    show Go p e below _ (T233.setTop (mkF m 24 #[.val (.ref x), .val (.ref y), .val (.int (10 : Int32)), .val (.int (5 : Int32)), .val (.ref n4), .val (.int (6 : Int32)), .val (.ref n6), sl7] [(.int (13 : Int32))]))
    refine g_istoreN D233 25 #[.val (.ref x), .val (.ref y), .val (.int (10 : Int32)), .val (.int (13 : Int32)), .val (.ref n4), .val (.int (6 : Int32)), .val (.ref n6), sl7] d_prog_10m3_24 rfl rfl ?_
    refine g_iloadN D233 26 d_prog_10m3_25 rfl rfl ?_
    refine g_ifY D233 31 d_prog_10m3_26 (by decide) (by decide) (by decide) ?_
    refine g_aloadN D233 32 d_prog_10m3_31 rfl rfl rfl ?_
    refine g_iloadN D233 33 d_prog_10m3_32 rfl rfl ?_
    refine g_iconst D233 34 (1 : Int32) d_prog_10m3_33 rfl rfl ?_
    refine g_iadd D233 35 d_prog_10m3_34 rfl ?_
    rw [show ((10 : Int32) + (1 : Int32)) = (11 : Int32) from by decide]
    refine g_iloadN D233 36 d_prog_10m3_35 rfl rfl ?_
    refine g_callV D233 39 (hw _ w_104) (hw _ w_105) (notFace_of_selects (args := #[]) (mvT D233.wm (hw _ w_107))) (hw _ w_107) (hw _ w_106) (by decide) ((cSub l Z a0 hw [] x [c0, (59 : Int32), (32 : Int32), la, (9 : Int32), (61 : Int32), c6, c7, c8, c9, (59 : Int32), lb, (32 : Int32), (61 : Int32), c14, c15, c16, c17] 11 13 zc fm h0 n0 Z0 OLD CS hzc SFm rfm X_x (by decide) (Nat.le_of_ble_eq_true rfl) (Nat.le_of_ble_eq_true rfl) (by decide)).back D233 0 (hw _ w_108) (hw _ w_6) (by decide) (by decide)) (X_x).exa rfl [(.int (11 : Int32)), (.int (13 : Int32))] rfl (lenOf pd_22 rfl) rfl (Nat.le_of_eq rfl) (by decide) (by decide) (fun _ _ _ q => by obtain ⟨_, _, _, _, E, _⟩ := q; exact D233.iv.ext E) d_prog_10m3_36 rfl ?_
    intro v234 T234 h234 L234 q234 D234
    obtain ⟨y234, rfl, g234, N234, E234, X234⟩ := q234
    have NF234 := Fr.app N_ N234
    replace X234 : LS Z h234 y234 [lb, (32 : Int32)] := X234
    show Go p e below _ (T234.setTop (mkF m 39 #[.val (.ref x), .val (.ref y), .val (.int (10 : Int32)), .val (.int (13 : Int32)), .val (.ref n4), .val (.int (6 : Int32)), .val (.ref n6), sl7] [(.ref y234)]))
    refine g_callV D234 42 (hw _ w_137) (hw _ w_138) (notFace_of_selects (args := #[]) (mvT D234.wm (hw _ w_140))) (hw _ w_140) (hw _ w_139) (by decide) ((cTr_n2 l Z a0 hw [] y234 zc lb h234 n0 (Nat.le_trans Z0 E234.1) (OLD.ext E234) CS hzc X234 (own_isln hlb).2.2).back D234 0 (hw _ w_141) (hw _ w_6) (by decide) (by decide)) (X234).exa rfl [] rfl (lenOf pd_23 rfl) rfl (Nat.le_of_eq rfl) (by decide) (by decide) (fun _ _ _ q => by obtain ⟨_, _, _, _, E, _⟩ := q; exact D234.iv.ext E) d_prog_10m3_39 rfl ?_
    intro v235 T235 h235 L235 q235 D235
    obtain ⟨y235, rfl, g235, N235, E235, X235⟩ := q235
    have NF235 := Fr.app NF234 N235
    rw [own_t2 (own_isln hlb).2.2] at X235
    have ne235 : y235 ≠ y := Nat.ne_of_gt (Nat.lt_of_lt_of_le (X_y.ext E234).lt g235)
    show Go p e below _ (T235.setTop (mkF m 42 #[.val (.ref x), .val (.ref y), .val (.int (10 : Int32)), .val (.int (13 : Int32)), .val (.ref n4), .val (.int (6 : Int32)), .val (.ref n6), sl7] [(.ref y235)]))
    refine g_astore D235 44 #[.val (.ref x), .val (.ref y), .val (.int (10 : Int32)), .val (.int (13 : Int32)), .val (.ref y235), .val (.int (6 : Int32)), .val (.ref n6), sl7] d_prog_10m3_42 rfl rfl rfl ?_
    refine g_iloadN D235 45 d_prog_10m3_44 rfl rfl ?_
    refine g_iconst D235 46 (1 : Int32) d_prog_10m3_45 rfl rfl ?_
    refine g_iadd D235 47 d_prog_10m3_46 rfl ?_
    rw [show ((13 : Int32) + (1 : Int32)) = (14 : Int32) from by decide]
    refine g_istore D235 49 #[.val (.ref x), .val (.ref y), .val (.int (10 : Int32)), .val (.int (13 : Int32)), .val (.ref y235), .val (.int (14 : Int32)), .val (.ref n6), sl7] d_prog_10m3_47 rfl rfl ?_
    refine g_iload D235 51 d_prog_10m3_49 rfl rfl ?_
    refine g_aloadN D235 52 d_prog_10m3_51 rfl rfl rfl ?_
    refine g_callVp D235 55 (hw _ w_146) (hw _ w_78) (notFace_of_selects (args := #[]) (mvT D235.wm (hw _ w_80))) (hw _ w_80) (hw _ w_79) (by decide) (TS.lenB 1 D235 hw (LS.ts ((X_x.ext E234).ext E235)) (CS.ext ((OLD.ext E234).ext E235).2) hzc (by decide) (by decide)) (((X_x.ext E234).ext E235)).exa rfl [] rfl (lenOf pd_4 rfl) rfl (Nat.le_of_eq rfl) (by decide) (by decide) d_prog_10m3_52 rfl ?_
    intro v236 T236 q236 D236
    subst q236
    show Go p e below _ (T236.setTop (mkF m 55 #[.val (.ref x), .val (.ref y), .val (.int (10 : Int32)), .val (.int (13 : Int32)), .val (.ref y235), .val (.int (14 : Int32)), .val (.ref n6), sl7] [(.int (18 : Int32)), (.int (14 : Int32))]))
    refine g_icmpN D236 58 d_prog_10m3_55 (by decide) rfl ?_
    refine g_aloadN D236 59 d_prog_10m3_58 rfl rfl rfl ?_
    refine g_iload D236 61 d_prog_10m3_59 rfl rfl ?_
    obtain ⟨t237, kt237, x237a, x237b, x237c, x237d, x237e, x237f⟩ := (id ((X_x.ext E234).ext E235))
    refine g_callVp D236 64 (hw _ w_147) (hw _ w_148) (notFace_of_selects (args := #[]) (mvT D236.wm (hw _ w_150))) (hw _ w_150) (hw _ w_149) (by decide) (StrChars.Road.chN (W := 0) D236.wm (fun d hd => hw d (wchn d hd)) (kI := 4) (hw _ w_14) (i := 14) x237a x237c x237b x237d (StrChars.Road.codOf rfl (fun c hc => (x237e c hc).2)) (up255 x237e) (CS.ext ((OLD.ext E234).ext E235).2) hzc (SFm.ext ((OLD.ext E234).ext E235).2) rfm x237f (Nat.le_of_ble_eq_true rfl : 15 ≤ _) rfl (by decide) (by decide)) x237a rfl [(.int (14 : Int32))] rfl (lenOf pd_18 rfl) rfl (Nat.le_of_eq rfl) (by decide) (by decide) d_prog_10m3_61 rfl ?_
    intro v238 T238 q238 D238
    subst q238
    show Go p e below _ (T238.setTop (mkF m 64 #[.val (.ref x), .val (.ref y), .val (.int (10 : Int32)), .val (.int (13 : Int32)), .val (.ref y235), .val (.int (14 : Int32)), .val (.ref n6), sl7] [(.int c14)]))
    refine g_bipush D238 66 (34 : Int32) d_prog_10m3_64 rfl rfl ?_
    refine g_icmpY D238 126 d_prog_10m3_66 (feq a1).2 (by decide) (by decide) ?_
    refine g_aloadN D238 127 d_prog_10m3_126 rfl rfl rfl ?_
    refine g_bipush D238 129 (59 : Int32) d_prog_10m3_127 rfl rfl ?_
    refine g_iload D238 131 d_prog_10m3_129 rfl rfl ?_
    refine g_callVp D238 134 (hw _ w_103) (hw _ w_68) (notFace_of_selects (args := #[]) (mvT D238.wm (hw _ w_70))) (hw _ w_70) (hw _ w_69) (by decide) ((cIX2 l Z a0 hw [] x (59 : Int32) zc 14 [c0, (59 : Int32), (32 : Int32), la, (9 : Int32), (61 : Int32), c6, c7, c8, c9, (59 : Int32), lb, (32 : Int32), (61 : Int32), c14, c15, c16, c17] h235 n0 (Nat.le_trans (Nat.le_trans Z0 E234.1) E235.1) ((OLD.ext E234).ext E235) CS hzc ((X_x.ext E234).ext E235) (by decide) (Nat.le_of_ble_eq_true rfl)).back D238 0 (hw _ w_71) (hw _ w_6) (by decide) (by decide)) (((X_x.ext E234).ext E235)).exa rfl [(.int (59 : Int32)), (.int (14 : Int32))] rfl (lenOf pd_1 rfl) rfl (Nat.le_of_eq rfl) (by decide) (by decide) d_prog_10m3_131 rfl ?_
    intro v239 T239 q239 D239
    obtain ⟨r239, rfl, c239⟩ := q239
    obtain rfl : r239 = (-1 : Int32) := c239.no (own_alS a2 (own_alS a3 (own_alS a4 (own_alS a5 own_al0))))
    show Go p e below _ (T239.setTop (mkF m 134 #[.val (.ref x), .val (.ref y), .val (.int (10 : Int32)), .val (.int (13 : Int32)), .val (.ref y235), .val (.int (14 : Int32)), .val (.ref n6), sl7] [(.int (-1 : Int32))]))
    refine g_istoreN D239 135 #[.val (.ref x), .val (.ref y), .val (.int (-1 : Int32)), .val (.int (13 : Int32)), .val (.ref y235), .val (.int (14 : Int32)), .val (.ref n6), sl7] d_prog_10m3_134 rfl rfl ?_
    refine g_aloadN D239 136 d_prog_10m3_135 rfl rfl rfl ?_
    refine g_iload D239 138 d_prog_10m3_136 rfl rfl ?_
    refine g_iloadN D239 139 d_prog_10m3_138 rfl rfl ?_
    refine g_ifN D239 142 d_prog_10m3_139 (by decide) rfl ?_
    refine g_aloadN D239 143 d_prog_10m3_142 rfl rfl rfl ?_
    refine g_callVp D239 146 (hw _ w_146) (hw _ w_78) (notFace_of_selects (args := #[]) (mvT D239.wm (hw _ w_80))) (hw _ w_80) (hw _ w_79) (by decide) (TS.lenB 2 D239 hw (LS.ts ((X_x.ext E234).ext E235)) (CS.ext ((OLD.ext E234).ext E235).2) hzc (by decide) (by decide)) (((X_x.ext E234).ext E235)).exa rfl [] rfl (lenOf pd_4 rfl) rfl (Nat.le_of_eq rfl) (by decide) (by decide) d_prog_10m3_143 rfl ?_
    intro v240 T240 q240 D240
    subst q240
    show Go p e below _ (T240.setTop (mkF m 146 #[.val (.ref x), .val (.ref y), .val (.int (-1 : Int32)), .val (.int (13 : Int32)), .val (.ref y235), .val (.int (14 : Int32)), .val (.ref n6), sl7] [(.int (18 : Int32)), (.int (14 : Int32)), (.ref x)]))
    refine g_goto D240 150 d_prog_10m3_146 (by decide) (by decide) ?_
    refine g_callV D240 153 (hw _ w_104) (hw _ w_105) (notFace_of_selects (args := #[]) (mvT D240.wm (hw _ w_107))) (hw _ w_107) (hw _ w_106) (by decide) ((cSub l Z a0 hw [] x [c0, (59 : Int32), (32 : Int32), la, (9 : Int32), (61 : Int32), c6, c7, c8, c9, (59 : Int32), lb, (32 : Int32), (61 : Int32), c14, c15, c16, c17] 14 18 zc fm h235 n0 (Nat.le_trans (Nat.le_trans Z0 E234.1) E235.1) ((OLD.ext E234).ext E235) CS hzc SFm rfm ((X_x.ext E234).ext E235) (by decide) (Nat.le_of_ble_eq_true rfl) (Nat.le_of_ble_eq_true rfl) (by decide)).back D240 0 (hw _ w_108) (hw _ w_6) (by decide) (by decide)) (((X_x.ext E234).ext E235)).exa rfl [(.int (14 : Int32)), (.int (18 : Int32))] rfl (lenOf pd_22 rfl) rfl (Nat.le_of_eq rfl) (by decide) (by decide) (fun _ _ _ q => by obtain ⟨_, _, _, _, E, _⟩ := q; exact D240.iv.ext E) d_prog_10m3_150 rfl ?_
    intro v241 T241 h241 L241 q241 D241
    obtain ⟨y241, rfl, g241, N241, E241, X241⟩ := q241
    have NF241 := Fr.app NF235 N241
    replace X241 : LS Z h241 y241 [c14, c15, c16, c17] := X241
    show Go p e below _ (T241.setTop (mkF m 153 #[.val (.ref x), .val (.ref y), .val (.int (-1 : Int32)), .val (.int (13 : Int32)), .val (.ref y235), .val (.int (14 : Int32)), .val (.ref n6), sl7] [(.ref y241)]))
    refine g_callVW D241 156 hEW (hw _ w_137) (hw _ w_138) (notFace_of_selects (args := #[]) (mvT D241.wm (hw _ w_140))) (hw _ w_140) (hw _ w_139) (hw _ w_6) (hw _ w_141) (by decide) (cTr_v4 l Z a0 hw [] y241 zc c14 c15 c16 c17 h241 n0 (Nat.le_trans (Nat.le_trans (Nat.le_trans Z0 E234.1) E235.1) E241.1) hEW (((OLD.ext E234).ext E235).ext E241) CS hzc X241) (X241).exa rfl [] rfl (lenOf pd_23 rfl) rfl 0 (Nat.le_of_eq rfl) (by decide) (by decide) (by decide) (by decide) d_prog_10m3_153 rfl ?_
    intro v242 s242 T242 h242 L242 q242 SF242 D242
    obtain ⟨y242, rfl, N242, E242, X242⟩ := q242
    have NF242 := Fr.app NF241 N242
    show Go p e below _ (T242.setTop (mkF m 156 #[.val (.ref x), .val (.ref y), .val (.int (-1 : Int32)), .val (.int (13 : Int32)), .val (.ref y235), .val (.int (14 : Int32)), .val (.ref n6), sl7] [(.ref y242)]))
    refine g_astore D242 158 #[.val (.ref x), .val (.ref y), .val (.int (-1 : Int32)), .val (.int (13 : Int32)), .val (.ref y235), .val (.int (14 : Int32)), .val (.ref y242), sl7] d_prog_10m3_156 rfl rfl rfl ?_
    refine g_aload D242 160 d_prog_10m3_158 rfl rfl rfl ?_
    refine g_aloadN D242 161 d_prog_10m3_160 rfl rfl rfl ?_
    refine g_callVp D242 164 (hw _ w_161) (hw _ w_162) (notFace_of_selects (args := #[]) (mvT D242.wm (hw _ w_164))) (hw _ w_164) (hw _ w_163) (by decide) ((cEI1 l Z a0 hw [] y235 y lb lq zc h242 n0 (Nat.le_trans (Nat.le_trans (Nat.le_trans (Nat.le_trans Z0 E234.1) E235.1) E241.1) E242.1) ((((OLD.ext E234).ext E235).ext E241).ext E242) CS hzc ((X235.ext E241).ext E242) ((((X_y.ext E234).ext E235).ext E241).ext E242) hlb hlq ne235).back D242 0 (hw _ w_165) (hw _ w_6) (by decide) (by decide)) (((X235.ext E241).ext E242)).exa rfl [(.ref y)] rfl (lenOf pd_24 rfl) rfl (Nat.le_of_eq rfl) (by decide) (by decide) d_prog_10m3_161 rfl ?_
    intro v243 T243 q243 D243
    subst q243
    show Go p e below _ (T243.setTop (mkF m 164 #[.val (.ref x), .val (.ref y), .val (.int (-1 : Int32)), .val (.int (13 : Int32)), .val (.ref y235), .val (.int (14 : Int32)), .val (.ref y242), sl7] [(.int (own_ci lb lq))]))
    by_cases kk : (own_ci lb lq) = (0 : Int32)
    · refine g_ifY D243 170 d_prog_10m3_164 (teq kk).1 (by decide) (by decide) ?_
      refine g_goto D243 13 d_prog_10m3_170 (by decide) (by decide) ?_
      refine g_iloadN D243 14 d_prog_10m3_13 rfl rfl ?_
      refine g_ifY D243 173 d_prog_10m3_14 (by decide) (by decide) (by decide) ?_
      refine g_aconst D243 174 d_prog_10m3_173 rfl ?_
      exact r_Aw D243 hEW hret rfl rfl hlk d_prog_10m3_174 ⟨.null, rfl, NF242, Ext.trans' E0 (Keep.toExt (((((Keep.refl _ []).ext E234).ext E235).ext E241).ext E242)), (by rw [ho, if_neg (fun g => g kk)]; exact rfl)⟩ (by decide) (by decide)
    refine g_ifN D243 167 d_prog_10m3_164 (feq kk).1 rfl ?_
    refine g_aload D243 169 d_prog_10m3_167 rfl rfl rfl ?_
    exact r_Aw D243 hEW hret rfl rfl hlk d_prog_10m3_169 ⟨.ref y242, rfl, NF242, Ext.trans' E0 (Keep.toExt (((((Keep.refl _ []).ext E234).ext E235).ext E241).ext E242)), (by rw [ho, if_pos kk]; exact ⟨_, rfl, X242⟩)⟩ (by decide) (by decide)
  · show Go p e below _ (T0.setTop (mkF m 13 #[.val (.ref x), .val (.ref y), .val (.int (10 : Int32)), .val (.int (5 : Int32)), .val (.ref n4), .val (.int (6 : Int32)), .val (.ref n6), sl7] []))
    refine g_iloadN D0 14 d_prog_10m3_13 rfl rfl ?_
    refine g_ifN D0 17 d_prog_10m3_14 (by decide) rfl ?_
    refine g_aloadN D0 18 d_prog_10m3_17 rfl rfl rfl ?_
    refine g_bipush D0 20 (61 : Int32) d_prog_10m3_18 rfl rfl ?_
    refine g_iloadN D0 21 d_prog_10m3_20 rfl rfl ?_
    refine g_callVp D0 24 (hw _ w_103) (hw _ w_68) (notFace_of_selects (args := #[]) (mvT D0.wm (hw _ w_70))) (hw _ w_70) (hw _ w_69) (by decide) ((cIX2 l Z a0 hw [] x (61 : Int32) zc 10 [c0, (59 : Int32), (32 : Int32), la, (9 : Int32), (61 : Int32), c6, c7, c8, c9, (59 : Int32), lb, (32 : Int32), (61 : Int32), (34 : Int32), c15, c16, (34 : Int32)] h0 n0 Z0 OLD CS hzc X_x (by decide) (Nat.le_of_ble_eq_true rfl)).back D0 0 (hw _ w_71) (hw _ w_6) (by decide) (by decide)) (X_x).exa rfl [(.int (61 : Int32)), (.int (10 : Int32))] rfl (lenOf pd_1 rfl) rfl (Nat.le_of_eq rfl) (by decide) (by decide) d_prog_10m3_21 rfl ?_
    intro v244 T244 q244 D244
    obtain ⟨r244, rfl, c244⟩ := q244
    obtain rfl : r244 = (13 : Int32) := c244.is (j := 13) (by decide) (Nat.le_of_ble_eq_true rfl : 14 ≤ List.length [c0, (59 : Int32), (32 : Int32), la, (9 : Int32), (61 : Int32), c6, c7, c8, c9, (59 : Int32), lb, (32 : Int32), (61 : Int32), (34 : Int32), c15, c16, (34 : Int32)]) rfl (own_alS (show ¬ (59 : Int32) = (61 : Int32) by decide) (own_alS (own_isln hlb).2.1 (own_alS (show ¬ (32 : Int32) = (61 : Int32) by decide) own_al0)))
    show Go p e below _ (T244.setTop (mkF m 24 #[.val (.ref x), .val (.ref y), .val (.int (10 : Int32)), .val (.int (5 : Int32)), .val (.ref n4), .val (.int (6 : Int32)), .val (.ref n6), sl7] [(.int (13 : Int32))]))
    refine g_istoreN D244 25 #[.val (.ref x), .val (.ref y), .val (.int (10 : Int32)), .val (.int (13 : Int32)), .val (.ref n4), .val (.int (6 : Int32)), .val (.ref n6), sl7] d_prog_10m3_24 rfl rfl ?_
    refine g_iloadN D244 26 d_prog_10m3_25 rfl rfl ?_
    refine g_ifY D244 31 d_prog_10m3_26 (by decide) (by decide) (by decide) ?_
    refine g_aloadN D244 32 d_prog_10m3_31 rfl rfl rfl ?_
    refine g_iloadN D244 33 d_prog_10m3_32 rfl rfl ?_
    refine g_iconst D244 34 (1 : Int32) d_prog_10m3_33 rfl rfl ?_
    refine g_iadd D244 35 d_prog_10m3_34 rfl ?_
    rw [show ((10 : Int32) + (1 : Int32)) = (11 : Int32) from by decide]
    refine g_iloadN D244 36 d_prog_10m3_35 rfl rfl ?_
    refine g_callV D244 39 (hw _ w_104) (hw _ w_105) (notFace_of_selects (args := #[]) (mvT D244.wm (hw _ w_107))) (hw _ w_107) (hw _ w_106) (by decide) ((cSub l Z a0 hw [] x [c0, (59 : Int32), (32 : Int32), la, (9 : Int32), (61 : Int32), c6, c7, c8, c9, (59 : Int32), lb, (32 : Int32), (61 : Int32), (34 : Int32), c15, c16, (34 : Int32)] 11 13 zc fm h0 n0 Z0 OLD CS hzc SFm rfm X_x (by decide) (Nat.le_of_ble_eq_true rfl) (Nat.le_of_ble_eq_true rfl) (by decide)).back D244 0 (hw _ w_108) (hw _ w_6) (by decide) (by decide)) (X_x).exa rfl [(.int (11 : Int32)), (.int (13 : Int32))] rfl (lenOf pd_22 rfl) rfl (Nat.le_of_eq rfl) (by decide) (by decide) (fun _ _ _ q => by obtain ⟨_, _, _, _, E, _⟩ := q; exact D244.iv.ext E) d_prog_10m3_36 rfl ?_
    intro v245 T245 h245 L245 q245 D245
    obtain ⟨y245, rfl, g245, N245, E245, X245⟩ := q245
    have NF245 := Fr.app N_ N245
    replace X245 : LS Z h245 y245 [lb, (32 : Int32)] := X245
    show Go p e below _ (T245.setTop (mkF m 39 #[.val (.ref x), .val (.ref y), .val (.int (10 : Int32)), .val (.int (13 : Int32)), .val (.ref n4), .val (.int (6 : Int32)), .val (.ref n6), sl7] [(.ref y245)]))
    refine g_callV D245 42 (hw _ w_137) (hw _ w_138) (notFace_of_selects (args := #[]) (mvT D245.wm (hw _ w_140))) (hw _ w_140) (hw _ w_139) (by decide) ((cTr_n2 l Z a0 hw [] y245 zc lb h245 n0 (Nat.le_trans Z0 E245.1) (OLD.ext E245) CS hzc X245 (own_isln hlb).2.2).back D245 0 (hw _ w_141) (hw _ w_6) (by decide) (by decide)) (X245).exa rfl [] rfl (lenOf pd_23 rfl) rfl (Nat.le_of_eq rfl) (by decide) (by decide) (fun _ _ _ q => by obtain ⟨_, _, _, _, E, _⟩ := q; exact D245.iv.ext E) d_prog_10m3_39 rfl ?_
    intro v246 T246 h246 L246 q246 D246
    obtain ⟨y246, rfl, g246, N246, E246, X246⟩ := q246
    have NF246 := Fr.app NF245 N246
    rw [own_t2 (own_isln hlb).2.2] at X246
    have ne246 : y246 ≠ y := Nat.ne_of_gt (Nat.lt_of_lt_of_le (X_y.ext E245).lt g246)
    show Go p e below _ (T246.setTop (mkF m 42 #[.val (.ref x), .val (.ref y), .val (.int (10 : Int32)), .val (.int (13 : Int32)), .val (.ref n4), .val (.int (6 : Int32)), .val (.ref n6), sl7] [(.ref y246)]))
    refine g_astore D246 44 #[.val (.ref x), .val (.ref y), .val (.int (10 : Int32)), .val (.int (13 : Int32)), .val (.ref y246), .val (.int (6 : Int32)), .val (.ref n6), sl7] d_prog_10m3_42 rfl rfl rfl ?_
    refine g_iloadN D246 45 d_prog_10m3_44 rfl rfl ?_
    refine g_iconst D246 46 (1 : Int32) d_prog_10m3_45 rfl rfl ?_
    refine g_iadd D246 47 d_prog_10m3_46 rfl ?_
    rw [show ((13 : Int32) + (1 : Int32)) = (14 : Int32) from by decide]
    refine g_istore D246 49 #[.val (.ref x), .val (.ref y), .val (.int (10 : Int32)), .val (.int (13 : Int32)), .val (.ref y246), .val (.int (14 : Int32)), .val (.ref n6), sl7] d_prog_10m3_47 rfl rfl ?_
    refine g_iload D246 51 d_prog_10m3_49 rfl rfl ?_
    refine g_aloadN D246 52 d_prog_10m3_51 rfl rfl rfl ?_
    refine g_callVp D246 55 (hw _ w_146) (hw _ w_78) (notFace_of_selects (args := #[]) (mvT D246.wm (hw _ w_80))) (hw _ w_80) (hw _ w_79) (by decide) (TS.lenB 1 D246 hw (LS.ts ((X_x.ext E245).ext E246)) (CS.ext ((OLD.ext E245).ext E246).2) hzc (by decide) (by decide)) (((X_x.ext E245).ext E246)).exa rfl [] rfl (lenOf pd_4 rfl) rfl (Nat.le_of_eq rfl) (by decide) (by decide) d_prog_10m3_52 rfl ?_
    intro v247 T247 q247 D247
    subst q247
    show Go p e below _ (T247.setTop (mkF m 55 #[.val (.ref x), .val (.ref y), .val (.int (10 : Int32)), .val (.int (13 : Int32)), .val (.ref y246), .val (.int (14 : Int32)), .val (.ref n6), sl7] [(.int (18 : Int32)), (.int (14 : Int32))]))
    refine g_icmpN D247 58 d_prog_10m3_55 (by decide) rfl ?_
    refine g_aloadN D247 59 d_prog_10m3_58 rfl rfl rfl ?_
    refine g_iload D247 61 d_prog_10m3_59 rfl rfl ?_
    obtain ⟨t248, kt248, x248a, x248b, x248c, x248d, x248e, x248f⟩ := (id ((X_x.ext E245).ext E246))
    refine g_callVp D247 64 (hw _ w_147) (hw _ w_148) (notFace_of_selects (args := #[]) (mvT D247.wm (hw _ w_150))) (hw _ w_150) (hw _ w_149) (by decide) (StrChars.Road.chN (W := 0) D247.wm (fun d hd => hw d (wchn d hd)) (kI := 4) (hw _ w_14) (i := 14) x248a x248c x248b x248d (StrChars.Road.codOf rfl (fun c hc => (x248e c hc).2)) (up255 x248e) (CS.ext ((OLD.ext E245).ext E246).2) hzc (SFm.ext ((OLD.ext E245).ext E246).2) rfm x248f (Nat.le_of_ble_eq_true rfl : 15 ≤ _) rfl (by decide) (by decide)) x248a rfl [(.int (14 : Int32))] rfl (lenOf pd_18 rfl) rfl (Nat.le_of_eq rfl) (by decide) (by decide) d_prog_10m3_61 rfl ?_
    intro v249 T249 q249 D249
    subst q249
    show Go p e below _ (T249.setTop (mkF m 64 #[.val (.ref x), .val (.ref y), .val (.int (10 : Int32)), .val (.int (13 : Int32)), .val (.ref y246), .val (.int (14 : Int32)), .val (.ref n6), sl7] [(.int (34 : Int32))]))
    refine g_bipush D249 66 (34 : Int32) d_prog_10m3_64 rfl rfl ?_
    refine g_icmpN D249 69 d_prog_10m3_66 (by decide) rfl ?_
    refine g_aloadN D249 70 d_prog_10m3_69 rfl rfl rfl ?_
    refine g_bipush D249 72 (34 : Int32) d_prog_10m3_70 rfl rfl ?_
    refine g_iload D249 74 d_prog_10m3_72 rfl rfl ?_
    refine g_iconst D249 75 (1 : Int32) d_prog_10m3_74 rfl rfl ?_
    refine g_iadd D249 76 d_prog_10m3_75 rfl ?_
    rw [show ((14 : Int32) + (1 : Int32)) = (15 : Int32) from by decide]
    refine g_callVp D249 79 (hw _ w_103) (hw _ w_68) (notFace_of_selects (args := #[]) (mvT D249.wm (hw _ w_70))) (hw _ w_70) (hw _ w_69) (by decide) ((cIX2 l Z a0 hw [] x (34 : Int32) zc 15 [c0, (59 : Int32), (32 : Int32), la, (9 : Int32), (61 : Int32), c6, c7, c8, c9, (59 : Int32), lb, (32 : Int32), (61 : Int32), (34 : Int32), c15, c16, (34 : Int32)] h246 n0 (Nat.le_trans (Nat.le_trans Z0 E245.1) E246.1) ((OLD.ext E245).ext E246) CS hzc ((X_x.ext E245).ext E246) (by decide) (Nat.le_of_ble_eq_true rfl)).back D249 0 (hw _ w_71) (hw _ w_6) (by decide) (by decide)) (((X_x.ext E245).ext E246)).exa rfl [(.int (34 : Int32)), (.int (15 : Int32))] rfl (lenOf pd_1 rfl) rfl (Nat.le_of_eq rfl) (by decide) (by decide) d_prog_10m3_76 rfl ?_
    intro v250 T250 q250 D250
    obtain ⟨r250, rfl, c250⟩ := q250
    obtain rfl : r250 = (17 : Int32) := c250.is (j := 17) (by decide) (Nat.le_of_ble_eq_true rfl : 18 ≤ List.length [c0, (59 : Int32), (32 : Int32), la, (9 : Int32), (61 : Int32), c6, c7, c8, c9, (59 : Int32), lb, (32 : Int32), (61 : Int32), (34 : Int32), c15, c16, (34 : Int32)]) rfl (own_alS a3 (own_alS a4 own_al0))
    show Go p e below _ (T250.setTop (mkF m 79 #[.val (.ref x), .val (.ref y), .val (.int (10 : Int32)), .val (.int (13 : Int32)), .val (.ref y246), .val (.int (14 : Int32)), .val (.ref n6), sl7] [(.int (17 : Int32))]))
    refine g_istore D250 81 #[.val (.ref x), .val (.ref y), .val (.int (10 : Int32)), .val (.int (13 : Int32)), .val (.ref y246), .val (.int (14 : Int32)), .val (.ref n6), .val (.int (17 : Int32))] d_prog_10m3_79 (by rcases h7 with rfl | rfl <;> rfl) rfl ?_
    refine g_aloadN D250 82 d_prog_10m3_81 rfl rfl rfl ?_
    refine g_iload D250 84 d_prog_10m3_82 rfl rfl ?_
    refine g_iconst D250 85 (1 : Int32) d_prog_10m3_84 rfl rfl ?_
    refine g_iadd D250 86 d_prog_10m3_85 rfl ?_
    rw [show ((14 : Int32) + (1 : Int32)) = (15 : Int32) from by decide]
    refine g_iload D250 88 d_prog_10m3_86 rfl rfl ?_
    refine g_ifY D250 98 d_prog_10m3_88 (by decide) (by decide) (by decide) ?_
    refine g_iload D250 100 d_prog_10m3_98 rfl rfl ?_
    refine g_callV D250 103 (hw _ w_104) (hw _ w_105) (notFace_of_selects (args := #[]) (mvT D250.wm (hw _ w_107))) (hw _ w_107) (hw _ w_106) (by decide) ((cSub l Z a0 hw [] x [c0, (59 : Int32), (32 : Int32), la, (9 : Int32), (61 : Int32), c6, c7, c8, c9, (59 : Int32), lb, (32 : Int32), (61 : Int32), (34 : Int32), c15, c16, (34 : Int32)] 15 17 zc fm h246 n0 (Nat.le_trans (Nat.le_trans Z0 E245.1) E246.1) ((OLD.ext E245).ext E246) CS hzc SFm rfm ((X_x.ext E245).ext E246) (by decide) (Nat.le_of_ble_eq_true rfl) (Nat.le_of_ble_eq_true rfl) (by decide)).back D250 0 (hw _ w_108) (hw _ w_6) (by decide) (by decide)) (((X_x.ext E245).ext E246)).exa rfl [(.int (15 : Int32)), (.int (17 : Int32))] rfl (lenOf pd_22 rfl) rfl (Nat.le_of_eq rfl) (by decide) (by decide) (fun _ _ _ q => by obtain ⟨_, _, _, _, E, _⟩ := q; exact D250.iv.ext E) d_prog_10m3_100 rfl ?_
    intro v251 T251 h251 L251 q251 D251
    obtain ⟨y251, rfl, g251, N251, E251, X251⟩ := q251
    have NF251 := Fr.app NF246 N251
    replace X251 : LS Z h251 y251 [c15, c16] := X251
    show Go p e below _ (T251.setTop (mkF m 103 #[.val (.ref x), .val (.ref y), .val (.int (10 : Int32)), .val (.int (13 : Int32)), .val (.ref y246), .val (.int (14 : Int32)), .val (.ref n6), .val (.int (17 : Int32))] [(.ref y251)]))
    refine g_astore D251 105 #[.val (.ref x), .val (.ref y), .val (.int (10 : Int32)), .val (.int (13 : Int32)), .val (.ref y246), .val (.int (14 : Int32)), .val (.ref y251), .val (.int (17 : Int32))] d_prog_10m3_103 rfl rfl rfl ?_
    refine g_iload D251 107 d_prog_10m3_105 rfl rfl ?_
    refine g_ifY D251 114 d_prog_10m3_107 (by decide) (by decide) (by decide) ?_
    refine g_aloadN D251 115 d_prog_10m3_114 rfl rfl rfl ?_
    refine g_bipush D251 117 (59 : Int32) d_prog_10m3_115 rfl rfl ?_
    refine g_iload D251 119 d_prog_10m3_117 rfl rfl ?_
    refine g_callVp D251 122 (hw _ w_103) (hw _ w_68) (notFace_of_selects (args := #[]) (mvT D251.wm (hw _ w_70))) (hw _ w_70) (hw _ w_69) (by decide) ((cIX2 l Z a0 hw [] x (59 : Int32) zc 17 [c0, (59 : Int32), (32 : Int32), la, (9 : Int32), (61 : Int32), c6, c7, c8, c9, (59 : Int32), lb, (32 : Int32), (61 : Int32), (34 : Int32), c15, c16, (34 : Int32)] h251 n0 (Nat.le_trans (Nat.le_trans (Nat.le_trans Z0 E245.1) E246.1) E251.1) (((OLD.ext E245).ext E246).ext E251) CS hzc (((X_x.ext E245).ext E246).ext E251) (by decide) (Nat.le_of_ble_eq_true rfl)).back D251 0 (hw _ w_71) (hw _ w_6) (by decide) (by decide)) ((((X_x.ext E245).ext E246).ext E251)).exa rfl [(.int (59 : Int32)), (.int (17 : Int32))] rfl (lenOf pd_1 rfl) rfl (Nat.le_of_eq rfl) (by decide) (by decide) d_prog_10m3_119 rfl ?_
    intro v252 T252 q252 D252
    obtain ⟨r252, rfl, c252⟩ := q252
    obtain rfl : r252 = (-1 : Int32) := c252.no (own_alS (show ¬ (34 : Int32) = (59 : Int32) by decide) own_al0)
    show Go p e below _ (T252.setTop (mkF m 122 #[.val (.ref x), .val (.ref y), .val (.int (10 : Int32)), .val (.int (13 : Int32)), .val (.ref y246), .val (.int (14 : Int32)), .val (.ref y251), .val (.int (17 : Int32))] [(.int (-1 : Int32))]))
    refine g_istoreN D252 123 #[.val (.ref x), .val (.ref y), .val (.int (-1 : Int32)), .val (.int (13 : Int32)), .val (.ref y246), .val (.int (14 : Int32)), .val (.ref y251), .val (.int (17 : Int32))] d_prog_10m3_122 rfl rfl ?_
    refine g_goto D252 158 d_prog_10m3_123 (by decide) (by decide) ?_
    refine g_aload D252 160 d_prog_10m3_158 rfl rfl rfl ?_
    refine g_aloadN D252 161 d_prog_10m3_160 rfl rfl rfl ?_
    refine g_callVp D252 164 (hw _ w_161) (hw _ w_162) (notFace_of_selects (args := #[]) (mvT D252.wm (hw _ w_164))) (hw _ w_164) (hw _ w_163) (by decide) ((cEI1 l Z a0 hw [] y246 y lb lq zc h251 n0 (Nat.le_trans (Nat.le_trans (Nat.le_trans Z0 E245.1) E246.1) E251.1) (((OLD.ext E245).ext E246).ext E251) CS hzc (X246.ext E251) (((X_y.ext E245).ext E246).ext E251) hlb hlq ne246).back D252 0 (hw _ w_165) (hw _ w_6) (by decide) (by decide)) ((X246.ext E251)).exa rfl [(.ref y)] rfl (lenOf pd_24 rfl) rfl (Nat.le_of_eq rfl) (by decide) (by decide) d_prog_10m3_161 rfl ?_
    intro v253 T253 q253 D253
    subst q253
    show Go p e below _ (T253.setTop (mkF m 164 #[.val (.ref x), .val (.ref y), .val (.int (-1 : Int32)), .val (.int (13 : Int32)), .val (.ref y246), .val (.int (14 : Int32)), .val (.ref y251), .val (.int (17 : Int32))] [(.int (own_ci lb lq))]))
    by_cases kk : (own_ci lb lq) = (0 : Int32)
    · refine g_ifY D253 170 d_prog_10m3_164 (teq kk).1 (by decide) (by decide) ?_
      refine g_goto D253 13 d_prog_10m3_170 (by decide) (by decide) ?_
      refine g_iloadN D253 14 d_prog_10m3_13 rfl rfl ?_
      refine g_ifY D253 173 d_prog_10m3_14 (by decide) (by decide) (by decide) ?_
      refine g_aconst D253 174 d_prog_10m3_173 rfl ?_
      exact r_Aw D253 hEW hret rfl rfl hlk d_prog_10m3_174 ⟨.null, rfl, NF251, Ext.trans' E0 (Keep.toExt ((((Keep.refl _ []).ext E245).ext E246).ext E251)), (by rw [ho, if_neg (fun g => g kk)]; exact rfl)⟩ (by decide) (by decide)
    refine g_ifN D253 167 d_prog_10m3_164 (feq kk).1 rfl ?_
    refine g_aload D253 169 d_prog_10m3_167 rfl rfl rfl ?_
    exact r_Aw D253 hEW hret rfl rfl hlk d_prog_10m3_169 ⟨.ref y251, rfl, NF251, Ext.trans' E0 (Keep.toExt ((((Keep.refl _ []).ext E245).ext E246).ext E251)), (by rw [ho, if_pos kk]; exact ⟨_, rfl, X251⟩)⟩ (by decide) (by decide)
  · show Go p e below _ (T0.setTop (mkF m 13 #[.val (.ref x), .val (.ref y), .val (.int (10 : Int32)), .val (.int (5 : Int32)), .val (.ref n4), .val (.int (6 : Int32)), .val (.ref n6), sl7] []))
    refine g_iloadN D0 14 d_prog_10m3_13 rfl rfl ?_
    refine g_ifN D0 17 d_prog_10m3_14 (by decide) rfl ?_
    refine g_aloadN D0 18 d_prog_10m3_17 rfl rfl rfl ?_
    refine g_bipush D0 20 (61 : Int32) d_prog_10m3_18 rfl rfl ?_
    refine g_iloadN D0 21 d_prog_10m3_20 rfl rfl ?_
    refine g_callVp D0 24 (hw _ w_103) (hw _ w_68) (notFace_of_selects (args := #[]) (mvT D0.wm (hw _ w_70))) (hw _ w_70) (hw _ w_69) (by decide) ((cIX2 l Z a0 hw [] x (61 : Int32) zc 10 [c0, (59 : Int32), (32 : Int32), la, (9 : Int32), (61 : Int32), c6, c7, c8, c9, (59 : Int32), lb, (32 : Int32), (61 : Int32), (34 : Int32), c15, c16, c17] h0 n0 Z0 OLD CS hzc X_x (by decide) (Nat.le_of_ble_eq_true rfl)).back D0 0 (hw _ w_71) (hw _ w_6) (by decide) (by decide)) (X_x).exa rfl [(.int (61 : Int32)), (.int (10 : Int32))] rfl (lenOf pd_1 rfl) rfl (Nat.le_of_eq rfl) (by decide) (by decide) d_prog_10m3_21 rfl ?_
    intro v254 T254 q254 D254
    obtain ⟨r254, rfl, c254⟩ := q254
    obtain rfl : r254 = (13 : Int32) := c254.is (j := 13) (by decide) (Nat.le_of_ble_eq_true rfl : 14 ≤ List.length [c0, (59 : Int32), (32 : Int32), la, (9 : Int32), (61 : Int32), c6, c7, c8, c9, (59 : Int32), lb, (32 : Int32), (61 : Int32), (34 : Int32), c15, c16, c17]) rfl (own_alS (show ¬ (59 : Int32) = (61 : Int32) by decide) (own_alS (own_isln hlb).2.1 (own_alS (show ¬ (32 : Int32) = (61 : Int32) by decide) own_al0)))
    show Go p e below _ (T254.setTop (mkF m 24 #[.val (.ref x), .val (.ref y), .val (.int (10 : Int32)), .val (.int (5 : Int32)), .val (.ref n4), .val (.int (6 : Int32)), .val (.ref n6), sl7] [(.int (13 : Int32))]))
    refine g_istoreN D254 25 #[.val (.ref x), .val (.ref y), .val (.int (10 : Int32)), .val (.int (13 : Int32)), .val (.ref n4), .val (.int (6 : Int32)), .val (.ref n6), sl7] d_prog_10m3_24 rfl rfl ?_
    refine g_iloadN D254 26 d_prog_10m3_25 rfl rfl ?_
    refine g_ifY D254 31 d_prog_10m3_26 (by decide) (by decide) (by decide) ?_
    refine g_aloadN D254 32 d_prog_10m3_31 rfl rfl rfl ?_
    refine g_iloadN D254 33 d_prog_10m3_32 rfl rfl ?_
    refine g_iconst D254 34 (1 : Int32) d_prog_10m3_33 rfl rfl ?_
    refine g_iadd D254 35 d_prog_10m3_34 rfl ?_
    rw [show ((10 : Int32) + (1 : Int32)) = (11 : Int32) from by decide]
    refine g_iloadN D254 36 d_prog_10m3_35 rfl rfl ?_
    refine g_callV D254 39 (hw _ w_104) (hw _ w_105) (notFace_of_selects (args := #[]) (mvT D254.wm (hw _ w_107))) (hw _ w_107) (hw _ w_106) (by decide) ((cSub l Z a0 hw [] x [c0, (59 : Int32), (32 : Int32), la, (9 : Int32), (61 : Int32), c6, c7, c8, c9, (59 : Int32), lb, (32 : Int32), (61 : Int32), (34 : Int32), c15, c16, c17] 11 13 zc fm h0 n0 Z0 OLD CS hzc SFm rfm X_x (by decide) (Nat.le_of_ble_eq_true rfl) (Nat.le_of_ble_eq_true rfl) (by decide)).back D254 0 (hw _ w_108) (hw _ w_6) (by decide) (by decide)) (X_x).exa rfl [(.int (11 : Int32)), (.int (13 : Int32))] rfl (lenOf pd_22 rfl) rfl (Nat.le_of_eq rfl) (by decide) (by decide) (fun _ _ _ q => by obtain ⟨_, _, _, _, E, _⟩ := q; exact D254.iv.ext E) d_prog_10m3_36 rfl ?_
    intro v255 T255 h255 L255 q255 D255
    obtain ⟨y255, rfl, g255, N255, E255, X255⟩ := q255
    have NF255 := Fr.app N_ N255
    replace X255 : LS Z h255 y255 [lb, (32 : Int32)] := X255
    show Go p e below _ (T255.setTop (mkF m 39 #[.val (.ref x), .val (.ref y), .val (.int (10 : Int32)), .val (.int (13 : Int32)), .val (.ref n4), .val (.int (6 : Int32)), .val (.ref n6), sl7] [(.ref y255)]))
    refine g_callV D255 42 (hw _ w_137) (hw _ w_138) (notFace_of_selects (args := #[]) (mvT D255.wm (hw _ w_140))) (hw _ w_140) (hw _ w_139) (by decide) ((cTr_n2 l Z a0 hw [] y255 zc lb h255 n0 (Nat.le_trans Z0 E255.1) (OLD.ext E255) CS hzc X255 (own_isln hlb).2.2).back D255 0 (hw _ w_141) (hw _ w_6) (by decide) (by decide)) (X255).exa rfl [] rfl (lenOf pd_23 rfl) rfl (Nat.le_of_eq rfl) (by decide) (by decide) (fun _ _ _ q => by obtain ⟨_, _, _, _, E, _⟩ := q; exact D255.iv.ext E) d_prog_10m3_39 rfl ?_
    intro v256 T256 h256 L256 q256 D256
    obtain ⟨y256, rfl, g256, N256, E256, X256⟩ := q256
    have NF256 := Fr.app NF255 N256
    rw [own_t2 (own_isln hlb).2.2] at X256
    have ne256 : y256 ≠ y := Nat.ne_of_gt (Nat.lt_of_lt_of_le (X_y.ext E255).lt g256)
    show Go p e below _ (T256.setTop (mkF m 42 #[.val (.ref x), .val (.ref y), .val (.int (10 : Int32)), .val (.int (13 : Int32)), .val (.ref n4), .val (.int (6 : Int32)), .val (.ref n6), sl7] [(.ref y256)]))
    refine g_astore D256 44 #[.val (.ref x), .val (.ref y), .val (.int (10 : Int32)), .val (.int (13 : Int32)), .val (.ref y256), .val (.int (6 : Int32)), .val (.ref n6), sl7] d_prog_10m3_42 rfl rfl rfl ?_
    refine g_iloadN D256 45 d_prog_10m3_44 rfl rfl ?_
    refine g_iconst D256 46 (1 : Int32) d_prog_10m3_45 rfl rfl ?_
    refine g_iadd D256 47 d_prog_10m3_46 rfl ?_
    rw [show ((13 : Int32) + (1 : Int32)) = (14 : Int32) from by decide]
    refine g_istore D256 49 #[.val (.ref x), .val (.ref y), .val (.int (10 : Int32)), .val (.int (13 : Int32)), .val (.ref y256), .val (.int (14 : Int32)), .val (.ref n6), sl7] d_prog_10m3_47 rfl rfl ?_
    refine g_iload D256 51 d_prog_10m3_49 rfl rfl ?_
    refine g_aloadN D256 52 d_prog_10m3_51 rfl rfl rfl ?_
    refine g_callVp D256 55 (hw _ w_146) (hw _ w_78) (notFace_of_selects (args := #[]) (mvT D256.wm (hw _ w_80))) (hw _ w_80) (hw _ w_79) (by decide) (TS.lenB 1 D256 hw (LS.ts ((X_x.ext E255).ext E256)) (CS.ext ((OLD.ext E255).ext E256).2) hzc (by decide) (by decide)) (((X_x.ext E255).ext E256)).exa rfl [] rfl (lenOf pd_4 rfl) rfl (Nat.le_of_eq rfl) (by decide) (by decide) d_prog_10m3_52 rfl ?_
    intro v257 T257 q257 D257
    subst q257
    show Go p e below _ (T257.setTop (mkF m 55 #[.val (.ref x), .val (.ref y), .val (.int (10 : Int32)), .val (.int (13 : Int32)), .val (.ref y256), .val (.int (14 : Int32)), .val (.ref n6), sl7] [(.int (18 : Int32)), (.int (14 : Int32))]))
    refine g_icmpN D257 58 d_prog_10m3_55 (by decide) rfl ?_
    refine g_aloadN D257 59 d_prog_10m3_58 rfl rfl rfl ?_
    refine g_iload D257 61 d_prog_10m3_59 rfl rfl ?_
    obtain ⟨t258, kt258, x258a, x258b, x258c, x258d, x258e, x258f⟩ := (id ((X_x.ext E255).ext E256))
    refine g_callVp D257 64 (hw _ w_147) (hw _ w_148) (notFace_of_selects (args := #[]) (mvT D257.wm (hw _ w_150))) (hw _ w_150) (hw _ w_149) (by decide) (StrChars.Road.chN (W := 0) D257.wm (fun d hd => hw d (wchn d hd)) (kI := 4) (hw _ w_14) (i := 14) x258a x258c x258b x258d (StrChars.Road.codOf rfl (fun c hc => (x258e c hc).2)) (up255 x258e) (CS.ext ((OLD.ext E255).ext E256).2) hzc (SFm.ext ((OLD.ext E255).ext E256).2) rfm x258f (Nat.le_of_ble_eq_true rfl : 15 ≤ _) rfl (by decide) (by decide)) x258a rfl [(.int (14 : Int32))] rfl (lenOf pd_18 rfl) rfl (Nat.le_of_eq rfl) (by decide) (by decide) d_prog_10m3_61 rfl ?_
    intro v259 T259 q259 D259
    subst q259
    show Go p e below _ (T259.setTop (mkF m 64 #[.val (.ref x), .val (.ref y), .val (.int (10 : Int32)), .val (.int (13 : Int32)), .val (.ref y256), .val (.int (14 : Int32)), .val (.ref n6), sl7] [(.int (34 : Int32))]))
    refine g_bipush D259 66 (34 : Int32) d_prog_10m3_64 rfl rfl ?_
    refine g_icmpN D259 69 d_prog_10m3_66 (by decide) rfl ?_
    refine g_aloadN D259 70 d_prog_10m3_69 rfl rfl rfl ?_
    refine g_bipush D259 72 (34 : Int32) d_prog_10m3_70 rfl rfl ?_
    refine g_iload D259 74 d_prog_10m3_72 rfl rfl ?_
    refine g_iconst D259 75 (1 : Int32) d_prog_10m3_74 rfl rfl ?_
    refine g_iadd D259 76 d_prog_10m3_75 rfl ?_
    rw [show ((14 : Int32) + (1 : Int32)) = (15 : Int32) from by decide]
    refine g_callVp D259 79 (hw _ w_103) (hw _ w_68) (notFace_of_selects (args := #[]) (mvT D259.wm (hw _ w_70))) (hw _ w_70) (hw _ w_69) (by decide) ((cIX2 l Z a0 hw [] x (34 : Int32) zc 15 [c0, (59 : Int32), (32 : Int32), la, (9 : Int32), (61 : Int32), c6, c7, c8, c9, (59 : Int32), lb, (32 : Int32), (61 : Int32), (34 : Int32), c15, c16, c17] h256 n0 (Nat.le_trans (Nat.le_trans Z0 E255.1) E256.1) ((OLD.ext E255).ext E256) CS hzc ((X_x.ext E255).ext E256) (by decide) (Nat.le_of_ble_eq_true rfl)).back D259 0 (hw _ w_71) (hw _ w_6) (by decide) (by decide)) (((X_x.ext E255).ext E256)).exa rfl [(.int (34 : Int32)), (.int (15 : Int32))] rfl (lenOf pd_1 rfl) rfl (Nat.le_of_eq rfl) (by decide) (by decide) d_prog_10m3_76 rfl ?_
    intro v260 T260 q260 D260
    obtain ⟨r260, rfl, c260⟩ := q260
    obtain rfl : r260 = (-1 : Int32) := c260.no (own_alS a2 (own_alS a3 (own_alS a4 own_al0)))
    show Go p e below _ (T260.setTop (mkF m 79 #[.val (.ref x), .val (.ref y), .val (.int (10 : Int32)), .val (.int (13 : Int32)), .val (.ref y256), .val (.int (14 : Int32)), .val (.ref n6), sl7] [(.int (-1 : Int32))]))
    refine g_istore D260 81 #[.val (.ref x), .val (.ref y), .val (.int (10 : Int32)), .val (.int (13 : Int32)), .val (.ref y256), .val (.int (14 : Int32)), .val (.ref n6), .val (.int (-1 : Int32))] d_prog_10m3_79 (by rcases h7 with rfl | rfl <;> rfl) rfl ?_
    refine g_aloadN D260 82 d_prog_10m3_81 rfl rfl rfl ?_
    refine g_iload D260 84 d_prog_10m3_82 rfl rfl ?_
    refine g_iconst D260 85 (1 : Int32) d_prog_10m3_84 rfl rfl ?_
    refine g_iadd D260 86 d_prog_10m3_85 rfl ?_
    rw [show ((14 : Int32) + (1 : Int32)) = (15 : Int32) from by decide]
    refine g_iload D260 88 d_prog_10m3_86 rfl rfl ?_
    refine g_ifN D260 91 d_prog_10m3_88 (by decide) rfl ?_
    refine g_aloadN D260 92 d_prog_10m3_91 rfl rfl rfl ?_
    refine g_callVp D260 95 (hw _ w_146) (hw _ w_78) (notFace_of_selects (args := #[]) (mvT D260.wm (hw _ w_80))) (hw _ w_80) (hw _ w_79) (by decide) (TS.lenB 2 D260 hw (LS.ts ((X_x.ext E255).ext E256)) (CS.ext ((OLD.ext E255).ext E256).2) hzc (by decide) (by decide)) (((X_x.ext E255).ext E256)).exa rfl [] rfl (lenOf pd_4 rfl) rfl (Nat.le_of_eq rfl) (by decide) (by decide) d_prog_10m3_92 rfl ?_
    intro v261 T261 q261 D261
    subst q261
    show Go p e below _ (T261.setTop (mkF m 95 #[.val (.ref x), .val (.ref y), .val (.int (10 : Int32)), .val (.int (13 : Int32)), .val (.ref y256), .val (.int (14 : Int32)), .val (.ref n6), .val (.int (-1 : Int32))] [(.int (18 : Int32)), (.int (15 : Int32)), (.ref x)]))
    refine g_goto D261 100 d_prog_10m3_95 (by decide) (by decide) ?_
    refine g_callV D261 103 (hw _ w_104) (hw _ w_105) (notFace_of_selects (args := #[]) (mvT D261.wm (hw _ w_107))) (hw _ w_107) (hw _ w_106) (by decide) ((cSub l Z a0 hw [] x [c0, (59 : Int32), (32 : Int32), la, (9 : Int32), (61 : Int32), c6, c7, c8, c9, (59 : Int32), lb, (32 : Int32), (61 : Int32), (34 : Int32), c15, c16, c17] 15 18 zc fm h256 n0 (Nat.le_trans (Nat.le_trans Z0 E255.1) E256.1) ((OLD.ext E255).ext E256) CS hzc SFm rfm ((X_x.ext E255).ext E256) (by decide) (Nat.le_of_ble_eq_true rfl) (Nat.le_of_ble_eq_true rfl) (by decide)).back D261 0 (hw _ w_108) (hw _ w_6) (by decide) (by decide)) (((X_x.ext E255).ext E256)).exa rfl [(.int (15 : Int32)), (.int (18 : Int32))] rfl (lenOf pd_22 rfl) rfl (Nat.le_of_eq rfl) (by decide) (by decide) (fun _ _ _ q => by obtain ⟨_, _, _, _, E, _⟩ := q; exact D261.iv.ext E) d_prog_10m3_100 rfl ?_
    intro v262 T262 h262 L262 q262 D262
    obtain ⟨y262, rfl, g262, N262, E262, X262⟩ := q262
    have NF262 := Fr.app NF256 N262
    replace X262 : LS Z h262 y262 [c15, c16, c17] := X262
    show Go p e below _ (T262.setTop (mkF m 103 #[.val (.ref x), .val (.ref y), .val (.int (10 : Int32)), .val (.int (13 : Int32)), .val (.ref y256), .val (.int (14 : Int32)), .val (.ref n6), .val (.int (-1 : Int32))] [(.ref y262)]))
    refine g_astore D262 105 #[.val (.ref x), .val (.ref y), .val (.int (10 : Int32)), .val (.int (13 : Int32)), .val (.ref y256), .val (.int (14 : Int32)), .val (.ref y262), .val (.int (-1 : Int32))] d_prog_10m3_103 rfl rfl rfl ?_
    refine g_iload D262 107 d_prog_10m3_105 rfl rfl ?_
    refine g_ifN D262 110 d_prog_10m3_107 (by decide) rfl ?_
    refine g_iconst D262 111 (-1 : Int32) d_prog_10m3_110 rfl rfl ?_
    refine g_goto D262 122 d_prog_10m3_111 (by decide) (by decide) ?_
    refine g_istoreN D262 123 #[.val (.ref x), .val (.ref y), .val (.int (-1 : Int32)), .val (.int (13 : Int32)), .val (.ref y256), .val (.int (14 : Int32)), .val (.ref y262), .val (.int (-1 : Int32))] d_prog_10m3_122 rfl rfl ?_
    refine g_goto D262 158 d_prog_10m3_123 (by decide) (by decide) ?_
    refine g_aload D262 160 d_prog_10m3_158 rfl rfl rfl ?_
    refine g_aloadN D262 161 d_prog_10m3_160 rfl rfl rfl ?_
    refine g_callVp D262 164 (hw _ w_161) (hw _ w_162) (notFace_of_selects (args := #[]) (mvT D262.wm (hw _ w_164))) (hw _ w_164) (hw _ w_163) (by decide) ((cEI1 l Z a0 hw [] y256 y lb lq zc h262 n0 (Nat.le_trans (Nat.le_trans (Nat.le_trans Z0 E255.1) E256.1) E262.1) (((OLD.ext E255).ext E256).ext E262) CS hzc (X256.ext E262) (((X_y.ext E255).ext E256).ext E262) hlb hlq ne256).back D262 0 (hw _ w_165) (hw _ w_6) (by decide) (by decide)) ((X256.ext E262)).exa rfl [(.ref y)] rfl (lenOf pd_24 rfl) rfl (Nat.le_of_eq rfl) (by decide) (by decide) d_prog_10m3_161 rfl ?_
    intro v263 T263 q263 D263
    subst q263
    show Go p e below _ (T263.setTop (mkF m 164 #[.val (.ref x), .val (.ref y), .val (.int (-1 : Int32)), .val (.int (13 : Int32)), .val (.ref y256), .val (.int (14 : Int32)), .val (.ref y262), .val (.int (-1 : Int32))] [(.int (own_ci lb lq))]))
    by_cases kk : (own_ci lb lq) = (0 : Int32)
    · refine g_ifY D263 170 d_prog_10m3_164 (teq kk).1 (by decide) (by decide) ?_
      refine g_goto D263 13 d_prog_10m3_170 (by decide) (by decide) ?_
      refine g_iloadN D263 14 d_prog_10m3_13 rfl rfl ?_
      refine g_ifY D263 173 d_prog_10m3_14 (by decide) (by decide) (by decide) ?_
      refine g_aconst D263 174 d_prog_10m3_173 rfl ?_
      exact r_Aw D263 hEW hret rfl rfl hlk d_prog_10m3_174 ⟨.null, rfl, NF262, Ext.trans' E0 (Keep.toExt ((((Keep.refl _ []).ext E255).ext E256).ext E262)), (by rw [ho, if_neg (fun g => g kk)]; exact rfl)⟩ (by decide) (by decide)
    refine g_ifN D263 167 d_prog_10m3_164 (feq kk).1 rfl ?_
    refine g_aload D263 169 d_prog_10m3_167 rfl rfl rfl ?_
    exact r_Aw D263 hEW hret rfl rfl hlk d_prog_10m3_169 ⟨.ref y262, rfl, NF262, Ext.trans' E0 (Keep.toExt ((((Keep.refl _ []).ext E255).ext E256).ext E262)), (by rw [ho, if_pos kk]; exact ⟨_, rfl, X262⟩)⟩ (by decide) (by decide)
def Q_cP2 (Z : State) (x y : Addr) (c0 la c6 c7 c8 c9 lb c14 c15 c16 c17 lq zc : Int32) (fm : Value) (v1 v2 : List Int32) (h0 : Heap) (n0 : Nat) : Option Value → Heap → List Loc → Prop := (own_QP Z h0 n0 (if ¬ c0 = (59 : Int32) ∧ ¬ own_ci la lq = 0 then some v1 else if ¬ own_ci lb lq = 0 then some v2 else none))
theorem cP2 (l : Launch) (Z : State) (a0 : Array Value) (hw : tHW Z a0) (ws : List Jvm.Cond) (x y : Addr) (c0 la c6 c7 c8 c9 lb c14 c15 c16 c17 lq zc : Int32) (fm : Value) (v1 v2 : List Int32) (h0 : Heap) (n0 : Nat) (Z0 : n0 ≤ h0.size) (hEW : EW Z a0 consts_1) (OLD : Old Z n0 h0) (CS : tCS Z zc) (hzc : ¬ zc = 0) (SFm : tSF Z fm) (rfm : fm.isRef = true) (X_x : LS Z h0 x [c0, (59 : Int32), (32 : Int32), la, (9 : Int32), (61 : Int32), c6, c7, c8, c9, (59 : Int32), lb, (32 : Int32), (61 : Int32), c14, c15, c16, c17]) (X_y : LS Z h0 y [lq]) (hla : own_isl la) (hlq : own_isl lq) (hlb : own_isl lb) (hH1 : own_H1 c6 c7 c8 c9 v1) (hH2 : own_H2 c14 c15 c16 c17 v2) :
    ConW l (⟨"com/example/same_answer/sameanswer/MediaType", "parameter", "(Ljava/lang/String;Ljava/lang/String;)Ljava/lang/String;"⟩ : MethodName) prog_10_method_3_code 8 (some (.object "java/lang/String")) ws ({ frames := 6, cells := 16, slots := 176, locals := 160 } : Room) Z consts_1 #[(.ref x), (.ref y)] h0 (Q_cP2 Z x y c0 la c6 c7 c8 c9 lb c14 c15 c16 c17 lq zc fm v1 v2 h0 n0) 16 176 := by
  refine enterW (plainFor_of_name pn_6) ?_
  intro p e s m below meth c s₁ hnm hret hlk D0
  rw [ef_cP2 m x y]
  by_cases hz : c0 = (59 : Int32)
  · subst hz
    rcases hH1 with ⟨a1, a2, a3, a4, a5, rfl⟩ | ⟨rfl, rfl, a3, a4, rfl⟩
    · show Go p e below _ (s₁.setTop (mkF m 0 #[.val (.ref x), .val (.ref y), .unset, .unset, .unset, .unset, .unset, .unset] []))
      refine g_aloadN D0 1 d_prog_10m3_0 rfl rfl rfl ?_
      refine g_nnY D0 6 d_prog_10m3_1 (by decide) (by decide) ?_
      refine g_aloadN D0 7 d_prog_10m3_6 rfl rfl rfl ?_
      refine g_bipush D0 9 (59 : Int32) d_prog_10m3_7 rfl rfl ?_
      refine g_callVp D0 12 (hw _ w_62) (hw _ w_63) (notFace_of_selects (args := #[]) (mvT D0.wm (hw _ w_65))) (hw _ w_65) (hw _ w_64) (by decide) ((cIX1 l Z a0 hw [] x (59 : Int32) zc [(59 : Int32), (59 : Int32), (32 : Int32), la, (9 : Int32), (61 : Int32), c6, c7, c8, c9, (59 : Int32), lb, (32 : Int32), (61 : Int32), c14, c15, c16, c17] h0 n0 Z0 OLD CS hzc X_x (by decide)).back D0 0 (hw _ w_66) (hw _ w_6) (by decide) (by decide)) (X_x).exa rfl [(.int (59 : Int32))] rfl (lenOf pd_21 rfl) rfl (Nat.le_of_eq rfl) (by decide) (by decide) d_prog_10m3_9 rfl ?_
      intro v264 T264 q264 D264
      obtain ⟨r264, rfl, c264⟩ := q264
      obtain rfl : r264 = (0 : Int32) := c264.is (j := 0) (by decide) (Nat.le_of_ble_eq_true rfl : 1 ≤ List.length [(59 : Int32), (59 : Int32), (32 : Int32), la, (9 : Int32), (61 : Int32), c6, c7, c8, c9, (59 : Int32), lb, (32 : Int32), (61 : Int32), c14, c15, c16, c17]) rfl own_al0
      show Go p e below _ (T264.setTop (mkF m 12 #[.val (.ref x), .val (.ref y), .unset, .unset, .unset, .unset, .unset, .unset] [(.int (0 : Int32))]))
      refine g_istoreN D264 13 #[.val (.ref x), .val (.ref y), .val (.int (0 : Int32)), .unset, .unset, .unset, .unset, .unset] d_prog_10m3_12 rfl rfl ?_
      refine g_iloadN D264 14 d_prog_10m3_13 rfl rfl ?_
      refine g_ifN D264 17 d_prog_10m3_14 (by decide) rfl ?_
      refine g_aloadN D264 18 d_prog_10m3_17 rfl rfl rfl ?_
      refine g_bipush D264 20 (61 : Int32) d_prog_10m3_18 rfl rfl ?_
      refine g_iloadN D264 21 d_prog_10m3_20 rfl rfl ?_
      refine g_callVp D264 24 (hw _ w_103) (hw _ w_68) (notFace_of_selects (args := #[]) (mvT D264.wm (hw _ w_70))) (hw _ w_70) (hw _ w_69) (by decide) ((cIX2 l Z a0 hw [] x (61 : Int32) zc 0 [(59 : Int32), (59 : Int32), (32 : Int32), la, (9 : Int32), (61 : Int32), c6, c7, c8, c9, (59 : Int32), lb, (32 : Int32), (61 : Int32), c14, c15, c16, c17] h0 n0 Z0 OLD CS hzc X_x (by decide) (Nat.le_of_ble_eq_true rfl)).back D264 0 (hw _ w_71) (hw _ w_6) (by decide) (by decide)) (X_x).exa rfl [(.int (61 : Int32)), (.int (0 : Int32))] rfl (lenOf pd_1 rfl) rfl (Nat.le_of_eq rfl) (by decide) (by decide) d_prog_10m3_21 rfl ?_
      intro v265 T265 q265 D265
      obtain ⟨r265, rfl, c265⟩ := q265
      obtain rfl : r265 = (5 : Int32) := c265.is (j := 5) (by decide) (Nat.le_of_ble_eq_true rfl : 6 ≤ List.length [(59 : Int32), (59 : Int32), (32 : Int32), la, (9 : Int32), (61 : Int32), c6, c7, c8, c9, (59 : Int32), lb, (32 : Int32), (61 : Int32), c14, c15, c16, c17]) rfl (own_alS (show ¬ (59 : Int32) = (61 : Int32) by decide) (own_alS (show ¬ (59 : Int32) = (61 : Int32) by decide) (own_alS (show ¬ (32 : Int32) = (61 : Int32) by decide) (own_alS (own_isln hla).2.1 (own_alS (show ¬ (9 : Int32) = (61 : Int32) by decide) own_al0)))))
      show Go p e below _ (T265.setTop (mkF m 24 #[.val (.ref x), .val (.ref y), .val (.int (0 : Int32)), .unset, .unset, .unset, .unset, .unset] [(.int (5 : Int32))]))
      refine g_istoreN D265 25 #[.val (.ref x), .val (.ref y), .val (.int (0 : Int32)), .val (.int (5 : Int32)), .unset, .unset, .unset, .unset] d_prog_10m3_24 rfl rfl ?_
      refine g_iloadN D265 26 d_prog_10m3_25 rfl rfl ?_
      refine g_ifY D265 31 d_prog_10m3_26 (by decide) (by decide) (by decide) ?_
      refine g_aloadN D265 32 d_prog_10m3_31 rfl rfl rfl ?_
      refine g_iloadN D265 33 d_prog_10m3_32 rfl rfl ?_
      refine g_iconst D265 34 (1 : Int32) d_prog_10m3_33 rfl rfl ?_
      refine g_iadd D265 35 d_prog_10m3_34 rfl ?_
      rw [show ((0 : Int32) + (1 : Int32)) = (1 : Int32) from by decide]
      refine g_iloadN D265 36 d_prog_10m3_35 rfl rfl ?_
      refine g_callV D265 39 (hw _ w_104) (hw _ w_105) (notFace_of_selects (args := #[]) (mvT D265.wm (hw _ w_107))) (hw _ w_107) (hw _ w_106) (by decide) ((cSub l Z a0 hw [] x [(59 : Int32), (59 : Int32), (32 : Int32), la, (9 : Int32), (61 : Int32), c6, c7, c8, c9, (59 : Int32), lb, (32 : Int32), (61 : Int32), c14, c15, c16, c17] 1 5 zc fm h0 n0 Z0 OLD CS hzc SFm rfm X_x (by decide) (Nat.le_of_ble_eq_true rfl) (Nat.le_of_ble_eq_true rfl) (by decide)).back D265 0 (hw _ w_108) (hw _ w_6) (by decide) (by decide)) (X_x).exa rfl [(.int (1 : Int32)), (.int (5 : Int32))] rfl (lenOf pd_22 rfl) rfl (Nat.le_of_eq rfl) (by decide) (by decide) (fun _ _ _ q => by obtain ⟨_, _, _, _, E, _⟩ := q; exact D265.iv.ext E) d_prog_10m3_36 rfl ?_
      intro v266 T266 h266 L266 q266 D266
      obtain ⟨y266, rfl, g266, N266, E266, X266⟩ := q266
      have NF266 := Fr.app (Fr.nil n0) N266
      replace X266 : LS Z h266 y266 [(59 : Int32), (32 : Int32), la, (9 : Int32)] := X266
      show Go p e below _ (T266.setTop (mkF m 39 #[.val (.ref x), .val (.ref y), .val (.int (0 : Int32)), .val (.int (5 : Int32)), .unset, .unset, .unset, .unset] [(.ref y266)]))
      refine g_callV D266 42 (hw _ w_137) (hw _ w_138) (notFace_of_selects (args := #[]) (mvT D266.wm (hw _ w_140))) (hw _ w_140) (hw _ w_139) (by decide) ((cTr_n4 l Z a0 hw [] y266 zc la h266 n0 (Nat.le_trans Z0 E266.1) (OLD.ext E266) CS hzc X266 (own_isln hla).2.2).back D266 0 (hw _ w_141) (hw _ w_6) (by decide) (by decide)) (X266).exa rfl [] rfl (lenOf pd_23 rfl) rfl (Nat.le_of_eq rfl) (by decide) (by decide) (fun _ _ _ q => by obtain ⟨_, _, _, _, E, _⟩ := q; exact D266.iv.ext E) d_prog_10m3_39 rfl ?_
      intro v267 T267 h267 L267 q267 D267
      obtain ⟨y267, rfl, g267, N267, E267, X267⟩ := q267
      have NF267 := Fr.app NF266 N267
      rw [own_t4 (own_isln hla).2.2] at X267
      have ne267 : y267 ≠ y := Nat.ne_of_gt (Nat.lt_of_lt_of_le (X_y.ext E266).lt g267)
      show Go p e below _ (T267.setTop (mkF m 42 #[.val (.ref x), .val (.ref y), .val (.int (0 : Int32)), .val (.int (5 : Int32)), .unset, .unset, .unset, .unset] [(.ref y267)]))
      refine g_astore D267 44 #[.val (.ref x), .val (.ref y), .val (.int (0 : Int32)), .val (.int (5 : Int32)), .val (.ref y267), .unset, .unset, .unset] d_prog_10m3_42 rfl rfl rfl ?_
      refine g_iloadN D267 45 d_prog_10m3_44 rfl rfl ?_
      refine g_iconst D267 46 (1 : Int32) d_prog_10m3_45 rfl rfl ?_
      refine g_iadd D267 47 d_prog_10m3_46 rfl ?_
      rw [show ((5 : Int32) + (1 : Int32)) = (6 : Int32) from by decide]
      refine g_istore D267 49 #[.val (.ref x), .val (.ref y), .val (.int (0 : Int32)), .val (.int (5 : Int32)), .val (.ref y267), .val (.int (6 : Int32)), .unset, .unset] d_prog_10m3_47 rfl rfl ?_
      refine g_iload D267 51 d_prog_10m3_49 rfl rfl ?_
      refine g_aloadN D267 52 d_prog_10m3_51 rfl rfl rfl ?_
      refine g_callVp D267 55 (hw _ w_146) (hw _ w_78) (notFace_of_selects (args := #[]) (mvT D267.wm (hw _ w_80))) (hw _ w_80) (hw _ w_79) (by decide) (TS.lenB 1 D267 hw (LS.ts ((X_x.ext E266).ext E267)) (CS.ext ((OLD.ext E266).ext E267).2) hzc (by decide) (by decide)) (((X_x.ext E266).ext E267)).exa rfl [] rfl (lenOf pd_4 rfl) rfl (Nat.le_of_eq rfl) (by decide) (by decide) d_prog_10m3_52 rfl ?_
      intro v268 T268 q268 D268
      subst q268
      show Go p e below _ (T268.setTop (mkF m 55 #[.val (.ref x), .val (.ref y), .val (.int (0 : Int32)), .val (.int (5 : Int32)), .val (.ref y267), .val (.int (6 : Int32)), .unset, .unset] [(.int (18 : Int32)), (.int (6 : Int32))]))
      refine g_icmpN D268 58 d_prog_10m3_55 (by decide) rfl ?_
      refine g_aloadN D268 59 d_prog_10m3_58 rfl rfl rfl ?_
      refine g_iload D268 61 d_prog_10m3_59 rfl rfl ?_
      obtain ⟨t269, kt269, x269a, x269b, x269c, x269d, x269e, x269f⟩ := (id ((X_x.ext E266).ext E267))
      refine g_callVp D268 64 (hw _ w_147) (hw _ w_148) (notFace_of_selects (args := #[]) (mvT D268.wm (hw _ w_150))) (hw _ w_150) (hw _ w_149) (by decide) (StrChars.Road.chN (W := 0) D268.wm (fun d hd => hw d (wchn d hd)) (kI := 4) (hw _ w_14) (i := 6) x269a x269c x269b x269d (StrChars.Road.codOf rfl (fun c hc => (x269e c hc).2)) (up255 x269e) (CS.ext ((OLD.ext E266).ext E267).2) hzc (SFm.ext ((OLD.ext E266).ext E267).2) rfm x269f (Nat.le_of_ble_eq_true rfl : 7 ≤ _) rfl (by decide) (by decide)) x269a rfl [(.int (6 : Int32))] rfl (lenOf pd_18 rfl) rfl (Nat.le_of_eq rfl) (by decide) (by decide) d_prog_10m3_61 rfl ?_
      intro v270 T270 q270 D270
      subst q270
      show Go p e below _ (T270.setTop (mkF m 64 #[.val (.ref x), .val (.ref y), .val (.int (0 : Int32)), .val (.int (5 : Int32)), .val (.ref y267), .val (.int (6 : Int32)), .unset, .unset] [(.int c6)]))
      refine g_bipush D270 66 (34 : Int32) d_prog_10m3_64 rfl rfl ?_
      refine g_icmpY D270 126 d_prog_10m3_66 (feq a1).2 (by decide) (by decide) ?_
      refine g_aloadN D270 127 d_prog_10m3_126 rfl rfl rfl ?_
      refine g_bipush D270 129 (59 : Int32) d_prog_10m3_127 rfl rfl ?_
      refine g_iload D270 131 d_prog_10m3_129 rfl rfl ?_
      refine g_callVp D270 134 (hw _ w_103) (hw _ w_68) (notFace_of_selects (args := #[]) (mvT D270.wm (hw _ w_70))) (hw _ w_70) (hw _ w_69) (by decide) ((cIX2 l Z a0 hw [] x (59 : Int32) zc 6 [(59 : Int32), (59 : Int32), (32 : Int32), la, (9 : Int32), (61 : Int32), c6, c7, c8, c9, (59 : Int32), lb, (32 : Int32), (61 : Int32), c14, c15, c16, c17] h267 n0 (Nat.le_trans (Nat.le_trans Z0 E266.1) E267.1) ((OLD.ext E266).ext E267) CS hzc ((X_x.ext E266).ext E267) (by decide) (Nat.le_of_ble_eq_true rfl)).back D270 0 (hw _ w_71) (hw _ w_6) (by decide) (by decide)) (((X_x.ext E266).ext E267)).exa rfl [(.int (59 : Int32)), (.int (6 : Int32))] rfl (lenOf pd_1 rfl) rfl (Nat.le_of_eq rfl) (by decide) (by decide) d_prog_10m3_131 rfl ?_
      intro v271 T271 q271 D271
      obtain ⟨r271, rfl, c271⟩ := q271
      obtain rfl : r271 = (10 : Int32) := c271.is (j := 10) (by decide) (Nat.le_of_ble_eq_true rfl : 11 ≤ List.length [(59 : Int32), (59 : Int32), (32 : Int32), la, (9 : Int32), (61 : Int32), c6, c7, c8, c9, (59 : Int32), lb, (32 : Int32), (61 : Int32), c14, c15, c16, c17]) rfl (own_alS a2 (own_alS a3 (own_alS a4 (own_alS a5 own_al0))))
      show Go p e below _ (T271.setTop (mkF m 134 #[.val (.ref x), .val (.ref y), .val (.int (0 : Int32)), .val (.int (5 : Int32)), .val (.ref y267), .val (.int (6 : Int32)), .unset, .unset] [(.int (10 : Int32))]))
      refine g_istoreN D271 135 #[.val (.ref x), .val (.ref y), .val (.int (10 : Int32)), .val (.int (5 : Int32)), .val (.ref y267), .val (.int (6 : Int32)), .unset, .unset] d_prog_10m3_134 rfl rfl ?_
      refine g_aloadN D271 136 d_prog_10m3_135 rfl rfl rfl ?_
      refine g_iload D271 138 d_prog_10m3_136 rfl rfl ?_
      refine g_iloadN D271 139 d_prog_10m3_138 rfl rfl ?_
      refine g_ifY D271 149 d_prog_10m3_139 (by decide) (by decide) (by decide) ?_
      refine g_iloadN D271 150 d_prog_10m3_149 rfl rfl ?_
      refine g_callV D271 153 (hw _ w_104) (hw _ w_105) (notFace_of_selects (args := #[]) (mvT D271.wm (hw _ w_107))) (hw _ w_107) (hw _ w_106) (by decide) ((cSub l Z a0 hw [] x [(59 : Int32), (59 : Int32), (32 : Int32), la, (9 : Int32), (61 : Int32), c6, c7, c8, c9, (59 : Int32), lb, (32 : Int32), (61 : Int32), c14, c15, c16, c17] 6 10 zc fm h267 n0 (Nat.le_trans (Nat.le_trans Z0 E266.1) E267.1) ((OLD.ext E266).ext E267) CS hzc SFm rfm ((X_x.ext E266).ext E267) (by decide) (Nat.le_of_ble_eq_true rfl) (Nat.le_of_ble_eq_true rfl) (by decide)).back D271 0 (hw _ w_108) (hw _ w_6) (by decide) (by decide)) (((X_x.ext E266).ext E267)).exa rfl [(.int (6 : Int32)), (.int (10 : Int32))] rfl (lenOf pd_22 rfl) rfl (Nat.le_of_eq rfl) (by decide) (by decide) (fun _ _ _ q => by obtain ⟨_, _, _, _, E, _⟩ := q; exact D271.iv.ext E) d_prog_10m3_150 rfl ?_
      intro v272 T272 h272 L272 q272 D272
      obtain ⟨y272, rfl, g272, N272, E272, X272⟩ := q272
      have NF272 := Fr.app NF267 N272
      replace X272 : LS Z h272 y272 [c6, c7, c8, c9] := X272
      show Go p e below _ (T272.setTop (mkF m 153 #[.val (.ref x), .val (.ref y), .val (.int (10 : Int32)), .val (.int (5 : Int32)), .val (.ref y267), .val (.int (6 : Int32)), .unset, .unset] [(.ref y272)]))
      refine g_callVW D272 156 hEW (hw _ w_137) (hw _ w_138) (notFace_of_selects (args := #[]) (mvT D272.wm (hw _ w_140))) (hw _ w_140) (hw _ w_139) (hw _ w_6) (hw _ w_141) (by decide) (cTr_v4 l Z a0 hw [] y272 zc c6 c7 c8 c9 h272 n0 (Nat.le_trans (Nat.le_trans (Nat.le_trans Z0 E266.1) E267.1) E272.1) hEW (((OLD.ext E266).ext E267).ext E272) CS hzc X272) (X272).exa rfl [] rfl (lenOf pd_23 rfl) rfl 0 (Nat.le_of_eq rfl) (by decide) (by decide) (by decide) (by decide) d_prog_10m3_153 rfl ?_
      intro v273 s273 T273 h273 L273 q273 SF273 D273
      obtain ⟨y273, rfl, N273, E273, X273⟩ := q273
      have NF273 := Fr.app NF272 N273
      show Go p e below _ (T273.setTop (mkF m 156 #[.val (.ref x), .val (.ref y), .val (.int (10 : Int32)), .val (.int (5 : Int32)), .val (.ref y267), .val (.int (6 : Int32)), .unset, .unset] [(.ref y273)]))
      refine g_astore D273 158 #[.val (.ref x), .val (.ref y), .val (.int (10 : Int32)), .val (.int (5 : Int32)), .val (.ref y267), .val (.int (6 : Int32)), .val (.ref y273), .unset] d_prog_10m3_156 rfl rfl rfl ?_
      refine g_aload D273 160 d_prog_10m3_158 rfl rfl rfl ?_
      refine g_aloadN D273 161 d_prog_10m3_160 rfl rfl rfl ?_
      refine g_callVp D273 164 (hw _ w_161) (hw _ w_162) (notFace_of_selects (args := #[]) (mvT D273.wm (hw _ w_164))) (hw _ w_164) (hw _ w_163) (by decide) ((cEI3 l Z a0 hw [] y267 y _ _ _ lq zc h273 n0 (Nat.le_trans (Nat.le_trans (Nat.le_trans (Nat.le_trans Z0 E266.1) E267.1) E272.1) E273.1) ((((OLD.ext E266).ext E267).ext E272).ext E273) CS hzc ((X267.ext E272).ext E273) ((((X_y.ext E266).ext E267).ext E272).ext E273) ne267).back D273 0 (hw _ w_165) (hw _ w_6) (by decide) (by decide)) (((X267.ext E272).ext E273)).exa rfl [(.ref y)] rfl (lenOf pd_24 rfl) rfl (Nat.le_of_eq rfl) (by decide) (by decide) d_prog_10m3_161 rfl ?_
      intro v274 T274 q274 D274
      subst q274
      show Go p e below _ (T274.setTop (mkF m 164 #[.val (.ref x), .val (.ref y), .val (.int (10 : Int32)), .val (.int (5 : Int32)), .val (.ref y267), .val (.int (6 : Int32)), .val (.ref y273), .unset] [(.int (0 : Int32))]))
      refine g_ifY D274 170 d_prog_10m3_164 (by decide) (by decide) (by decide) ?_
      refine g_goto D274 13 d_prog_10m3_170 (by decide) (by decide) ?_
      exact cTn l Z a0 hw x y (59 : Int32) la c6 c7 c8 c9 lb c14 c15 c16 c17 lq zc fm v2 h0 h273 n0 (Nat.le_trans (Nat.le_trans (Nat.le_trans (Nat.le_trans Z0 E266.1) E267.1) E272.1) E273.1) hEW (Keep.toExt (((((Keep.refl _ []).ext E266).ext E267).ext E272).ext E273)) ((((OLD.ext E266).ext E267).ext E272).ext E273) CS hzc SFm rfm ((((X_x.ext E266).ext E267).ext E272).ext E273) ((((X_y.ext E266).ext E267).ext E272).ext E273) hla hlq hlb hH2 _ (if_neg (fun g => g.1 rfl)) p e s m below meth c _ _ _ _ hret hlk NF273 y267 y273 _ (Or.inl rfl) (D274.more (by decide) (by decide))
    · show Go p e below _ (s₁.setTop (mkF m 0 #[.val (.ref x), .val (.ref y), .unset, .unset, .unset, .unset, .unset, .unset] []))
      refine g_aloadN D0 1 d_prog_10m3_0 rfl rfl rfl ?_
      refine g_nnY D0 6 d_prog_10m3_1 (by decide) (by decide) ?_
      refine g_aloadN D0 7 d_prog_10m3_6 rfl rfl rfl ?_
      refine g_bipush D0 9 (59 : Int32) d_prog_10m3_7 rfl rfl ?_
      refine g_callVp D0 12 (hw _ w_62) (hw _ w_63) (notFace_of_selects (args := #[]) (mvT D0.wm (hw _ w_65))) (hw _ w_65) (hw _ w_64) (by decide) ((cIX1 l Z a0 hw [] x (59 : Int32) zc [(59 : Int32), (59 : Int32), (32 : Int32), la, (9 : Int32), (61 : Int32), (34 : Int32), c7, c8, (34 : Int32), (59 : Int32), lb, (32 : Int32), (61 : Int32), c14, c15, c16, c17] h0 n0 Z0 OLD CS hzc X_x (by decide)).back D0 0 (hw _ w_66) (hw _ w_6) (by decide) (by decide)) (X_x).exa rfl [(.int (59 : Int32))] rfl (lenOf pd_21 rfl) rfl (Nat.le_of_eq rfl) (by decide) (by decide) d_prog_10m3_9 rfl ?_
      intro v275 T275 q275 D275
      obtain ⟨r275, rfl, c275⟩ := q275
      obtain rfl : r275 = (0 : Int32) := c275.is (j := 0) (by decide) (Nat.le_of_ble_eq_true rfl : 1 ≤ List.length [(59 : Int32), (59 : Int32), (32 : Int32), la, (9 : Int32), (61 : Int32), (34 : Int32), c7, c8, (34 : Int32), (59 : Int32), lb, (32 : Int32), (61 : Int32), c14, c15, c16, c17]) rfl own_al0
      show Go p e below _ (T275.setTop (mkF m 12 #[.val (.ref x), .val (.ref y), .unset, .unset, .unset, .unset, .unset, .unset] [(.int (0 : Int32))]))
      refine g_istoreN D275 13 #[.val (.ref x), .val (.ref y), .val (.int (0 : Int32)), .unset, .unset, .unset, .unset, .unset] d_prog_10m3_12 rfl rfl ?_
      refine g_iloadN D275 14 d_prog_10m3_13 rfl rfl ?_
      refine g_ifN D275 17 d_prog_10m3_14 (by decide) rfl ?_
      refine g_aloadN D275 18 d_prog_10m3_17 rfl rfl rfl ?_
      refine g_bipush D275 20 (61 : Int32) d_prog_10m3_18 rfl rfl ?_
      refine g_iloadN D275 21 d_prog_10m3_20 rfl rfl ?_
      refine g_callVp D275 24 (hw _ w_103) (hw _ w_68) (notFace_of_selects (args := #[]) (mvT D275.wm (hw _ w_70))) (hw _ w_70) (hw _ w_69) (by decide) ((cIX2 l Z a0 hw [] x (61 : Int32) zc 0 [(59 : Int32), (59 : Int32), (32 : Int32), la, (9 : Int32), (61 : Int32), (34 : Int32), c7, c8, (34 : Int32), (59 : Int32), lb, (32 : Int32), (61 : Int32), c14, c15, c16, c17] h0 n0 Z0 OLD CS hzc X_x (by decide) (Nat.le_of_ble_eq_true rfl)).back D275 0 (hw _ w_71) (hw _ w_6) (by decide) (by decide)) (X_x).exa rfl [(.int (61 : Int32)), (.int (0 : Int32))] rfl (lenOf pd_1 rfl) rfl (Nat.le_of_eq rfl) (by decide) (by decide) d_prog_10m3_21 rfl ?_
      intro v276 T276 q276 D276
      obtain ⟨r276, rfl, c276⟩ := q276
      obtain rfl : r276 = (5 : Int32) := c276.is (j := 5) (by decide) (Nat.le_of_ble_eq_true rfl : 6 ≤ List.length [(59 : Int32), (59 : Int32), (32 : Int32), la, (9 : Int32), (61 : Int32), (34 : Int32), c7, c8, (34 : Int32), (59 : Int32), lb, (32 : Int32), (61 : Int32), c14, c15, c16, c17]) rfl (own_alS (show ¬ (59 : Int32) = (61 : Int32) by decide) (own_alS (show ¬ (59 : Int32) = (61 : Int32) by decide) (own_alS (show ¬ (32 : Int32) = (61 : Int32) by decide) (own_alS (own_isln hla).2.1 (own_alS (show ¬ (9 : Int32) = (61 : Int32) by decide) own_al0)))))
      show Go p e below _ (T276.setTop (mkF m 24 #[.val (.ref x), .val (.ref y), .val (.int (0 : Int32)), .unset, .unset, .unset, .unset, .unset] [(.int (5 : Int32))]))
      refine g_istoreN D276 25 #[.val (.ref x), .val (.ref y), .val (.int (0 : Int32)), .val (.int (5 : Int32)), .unset, .unset, .unset, .unset] d_prog_10m3_24 rfl rfl ?_
      refine g_iloadN D276 26 d_prog_10m3_25 rfl rfl ?_
      refine g_ifY D276 31 d_prog_10m3_26 (by decide) (by decide) (by decide) ?_
      refine g_aloadN D276 32 d_prog_10m3_31 rfl rfl rfl ?_
      refine g_iloadN D276 33 d_prog_10m3_32 rfl rfl ?_
      refine g_iconst D276 34 (1 : Int32) d_prog_10m3_33 rfl rfl ?_
      refine g_iadd D276 35 d_prog_10m3_34 rfl ?_
      rw [show ((0 : Int32) + (1 : Int32)) = (1 : Int32) from by decide]
      refine g_iloadN D276 36 d_prog_10m3_35 rfl rfl ?_
      refine g_callV D276 39 (hw _ w_104) (hw _ w_105) (notFace_of_selects (args := #[]) (mvT D276.wm (hw _ w_107))) (hw _ w_107) (hw _ w_106) (by decide) ((cSub l Z a0 hw [] x [(59 : Int32), (59 : Int32), (32 : Int32), la, (9 : Int32), (61 : Int32), (34 : Int32), c7, c8, (34 : Int32), (59 : Int32), lb, (32 : Int32), (61 : Int32), c14, c15, c16, c17] 1 5 zc fm h0 n0 Z0 OLD CS hzc SFm rfm X_x (by decide) (Nat.le_of_ble_eq_true rfl) (Nat.le_of_ble_eq_true rfl) (by decide)).back D276 0 (hw _ w_108) (hw _ w_6) (by decide) (by decide)) (X_x).exa rfl [(.int (1 : Int32)), (.int (5 : Int32))] rfl (lenOf pd_22 rfl) rfl (Nat.le_of_eq rfl) (by decide) (by decide) (fun _ _ _ q => by obtain ⟨_, _, _, _, E, _⟩ := q; exact D276.iv.ext E) d_prog_10m3_36 rfl ?_
      intro v277 T277 h277 L277 q277 D277
      obtain ⟨y277, rfl, g277, N277, E277, X277⟩ := q277
      have NF277 := Fr.app (Fr.nil n0) N277
      replace X277 : LS Z h277 y277 [(59 : Int32), (32 : Int32), la, (9 : Int32)] := X277
      show Go p e below _ (T277.setTop (mkF m 39 #[.val (.ref x), .val (.ref y), .val (.int (0 : Int32)), .val (.int (5 : Int32)), .unset, .unset, .unset, .unset] [(.ref y277)]))
      refine g_callV D277 42 (hw _ w_137) (hw _ w_138) (notFace_of_selects (args := #[]) (mvT D277.wm (hw _ w_140))) (hw _ w_140) (hw _ w_139) (by decide) ((cTr_n4 l Z a0 hw [] y277 zc la h277 n0 (Nat.le_trans Z0 E277.1) (OLD.ext E277) CS hzc X277 (own_isln hla).2.2).back D277 0 (hw _ w_141) (hw _ w_6) (by decide) (by decide)) (X277).exa rfl [] rfl (lenOf pd_23 rfl) rfl (Nat.le_of_eq rfl) (by decide) (by decide) (fun _ _ _ q => by obtain ⟨_, _, _, _, E, _⟩ := q; exact D277.iv.ext E) d_prog_10m3_39 rfl ?_
      intro v278 T278 h278 L278 q278 D278
      obtain ⟨y278, rfl, g278, N278, E278, X278⟩ := q278
      have NF278 := Fr.app NF277 N278
      rw [own_t4 (own_isln hla).2.2] at X278
      have ne278 : y278 ≠ y := Nat.ne_of_gt (Nat.lt_of_lt_of_le (X_y.ext E277).lt g278)
      show Go p e below _ (T278.setTop (mkF m 42 #[.val (.ref x), .val (.ref y), .val (.int (0 : Int32)), .val (.int (5 : Int32)), .unset, .unset, .unset, .unset] [(.ref y278)]))
      refine g_astore D278 44 #[.val (.ref x), .val (.ref y), .val (.int (0 : Int32)), .val (.int (5 : Int32)), .val (.ref y278), .unset, .unset, .unset] d_prog_10m3_42 rfl rfl rfl ?_
      refine g_iloadN D278 45 d_prog_10m3_44 rfl rfl ?_
      refine g_iconst D278 46 (1 : Int32) d_prog_10m3_45 rfl rfl ?_
      refine g_iadd D278 47 d_prog_10m3_46 rfl ?_
      rw [show ((5 : Int32) + (1 : Int32)) = (6 : Int32) from by decide]
      refine g_istore D278 49 #[.val (.ref x), .val (.ref y), .val (.int (0 : Int32)), .val (.int (5 : Int32)), .val (.ref y278), .val (.int (6 : Int32)), .unset, .unset] d_prog_10m3_47 rfl rfl ?_
      refine g_iload D278 51 d_prog_10m3_49 rfl rfl ?_
      refine g_aloadN D278 52 d_prog_10m3_51 rfl rfl rfl ?_
      refine g_callVp D278 55 (hw _ w_146) (hw _ w_78) (notFace_of_selects (args := #[]) (mvT D278.wm (hw _ w_80))) (hw _ w_80) (hw _ w_79) (by decide) (TS.lenB 1 D278 hw (LS.ts ((X_x.ext E277).ext E278)) (CS.ext ((OLD.ext E277).ext E278).2) hzc (by decide) (by decide)) (((X_x.ext E277).ext E278)).exa rfl [] rfl (lenOf pd_4 rfl) rfl (Nat.le_of_eq rfl) (by decide) (by decide) d_prog_10m3_52 rfl ?_
      intro v279 T279 q279 D279
      subst q279
      show Go p e below _ (T279.setTop (mkF m 55 #[.val (.ref x), .val (.ref y), .val (.int (0 : Int32)), .val (.int (5 : Int32)), .val (.ref y278), .val (.int (6 : Int32)), .unset, .unset] [(.int (18 : Int32)), (.int (6 : Int32))]))
      refine g_icmpN D279 58 d_prog_10m3_55 (by decide) rfl ?_
      refine g_aloadN D279 59 d_prog_10m3_58 rfl rfl rfl ?_
      refine g_iload D279 61 d_prog_10m3_59 rfl rfl ?_
      obtain ⟨t280, kt280, x280a, x280b, x280c, x280d, x280e, x280f⟩ := (id ((X_x.ext E277).ext E278))
      refine g_callVp D279 64 (hw _ w_147) (hw _ w_148) (notFace_of_selects (args := #[]) (mvT D279.wm (hw _ w_150))) (hw _ w_150) (hw _ w_149) (by decide) (StrChars.Road.chN (W := 0) D279.wm (fun d hd => hw d (wchn d hd)) (kI := 4) (hw _ w_14) (i := 6) x280a x280c x280b x280d (StrChars.Road.codOf rfl (fun c hc => (x280e c hc).2)) (up255 x280e) (CS.ext ((OLD.ext E277).ext E278).2) hzc (SFm.ext ((OLD.ext E277).ext E278).2) rfm x280f (Nat.le_of_ble_eq_true rfl : 7 ≤ _) rfl (by decide) (by decide)) x280a rfl [(.int (6 : Int32))] rfl (lenOf pd_18 rfl) rfl (Nat.le_of_eq rfl) (by decide) (by decide) d_prog_10m3_61 rfl ?_
      intro v281 T281 q281 D281
      subst q281
      show Go p e below _ (T281.setTop (mkF m 64 #[.val (.ref x), .val (.ref y), .val (.int (0 : Int32)), .val (.int (5 : Int32)), .val (.ref y278), .val (.int (6 : Int32)), .unset, .unset] [(.int (34 : Int32))]))
      refine g_bipush D281 66 (34 : Int32) d_prog_10m3_64 rfl rfl ?_
      refine g_icmpN D281 69 d_prog_10m3_66 (by decide) rfl ?_
      refine g_aloadN D281 70 d_prog_10m3_69 rfl rfl rfl ?_
      refine g_bipush D281 72 (34 : Int32) d_prog_10m3_70 rfl rfl ?_
      refine g_iload D281 74 d_prog_10m3_72 rfl rfl ?_
      refine g_iconst D281 75 (1 : Int32) d_prog_10m3_74 rfl rfl ?_
      refine g_iadd D281 76 d_prog_10m3_75 rfl ?_
      rw [show ((6 : Int32) + (1 : Int32)) = (7 : Int32) from by decide]
      refine g_callVp D281 79 (hw _ w_103) (hw _ w_68) (notFace_of_selects (args := #[]) (mvT D281.wm (hw _ w_70))) (hw _ w_70) (hw _ w_69) (by decide) ((cIX2 l Z a0 hw [] x (34 : Int32) zc 7 [(59 : Int32), (59 : Int32), (32 : Int32), la, (9 : Int32), (61 : Int32), (34 : Int32), c7, c8, (34 : Int32), (59 : Int32), lb, (32 : Int32), (61 : Int32), c14, c15, c16, c17] h278 n0 (Nat.le_trans (Nat.le_trans Z0 E277.1) E278.1) ((OLD.ext E277).ext E278) CS hzc ((X_x.ext E277).ext E278) (by decide) (Nat.le_of_ble_eq_true rfl)).back D281 0 (hw _ w_71) (hw _ w_6) (by decide) (by decide)) (((X_x.ext E277).ext E278)).exa rfl [(.int (34 : Int32)), (.int (7 : Int32))] rfl (lenOf pd_1 rfl) rfl (Nat.le_of_eq rfl) (by decide) (by decide) d_prog_10m3_76 rfl ?_
      intro v282 T282 q282 D282
      obtain ⟨r282, rfl, c282⟩ := q282
      obtain rfl : r282 = (9 : Int32) := c282.is (j := 9) (by decide) (Nat.le_of_ble_eq_true rfl : 10 ≤ List.length [(59 : Int32), (59 : Int32), (32 : Int32), la, (9 : Int32), (61 : Int32), (34 : Int32), c7, c8, (34 : Int32), (59 : Int32), lb, (32 : Int32), (61 : Int32), c14, c15, c16, c17]) rfl (own_alS a3 (own_alS a4 own_al0))
      show Go p e below _ (T282.setTop (mkF m 79 #[.val (.ref x), .val (.ref y), .val (.int (0 : Int32)), .val (.int (5 : Int32)), .val (.ref y278), .val (.int (6 : Int32)), .unset, .unset] [(.int (9 : Int32))]))
      refine g_istore D282 81 #[.val (.ref x), .val (.ref y), .val (.int (0 : Int32)), .val (.int (5 : Int32)), .val (.ref y278), .val (.int (6 : Int32)), .unset, .val (.int (9 : Int32))] d_prog_10m3_79 rfl rfl ?_
      refine g_aloadN D282 82 d_prog_10m3_81 rfl rfl rfl ?_
      refine g_iload D282 84 d_prog_10m3_82 rfl rfl ?_
      refine g_iconst D282 85 (1 : Int32) d_prog_10m3_84 rfl rfl ?_
      refine g_iadd D282 86 d_prog_10m3_85 rfl ?_
      rw [show ((6 : Int32) + (1 : Int32)) = (7 : Int32) from by decide]
      refine g_iload D282 88 d_prog_10m3_86 rfl rfl ?_
      refine g_ifY D282 98 d_prog_10m3_88 (by decide) (by decide) (by decide) ?_
      refine g_iload D282 100 d_prog_10m3_98 rfl rfl ?_
      refine g_callV D282 103 (hw _ w_104) (hw _ w_105) (notFace_of_selects (args := #[]) (mvT D282.wm (hw _ w_107))) (hw _ w_107) (hw _ w_106) (by decide) ((cSub l Z a0 hw [] x [(59 : Int32), (59 : Int32), (32 : Int32), la, (9 : Int32), (61 : Int32), (34 : Int32), c7, c8, (34 : Int32), (59 : Int32), lb, (32 : Int32), (61 : Int32), c14, c15, c16, c17] 7 9 zc fm h278 n0 (Nat.le_trans (Nat.le_trans Z0 E277.1) E278.1) ((OLD.ext E277).ext E278) CS hzc SFm rfm ((X_x.ext E277).ext E278) (by decide) (Nat.le_of_ble_eq_true rfl) (Nat.le_of_ble_eq_true rfl) (by decide)).back D282 0 (hw _ w_108) (hw _ w_6) (by decide) (by decide)) (((X_x.ext E277).ext E278)).exa rfl [(.int (7 : Int32)), (.int (9 : Int32))] rfl (lenOf pd_22 rfl) rfl (Nat.le_of_eq rfl) (by decide) (by decide) (fun _ _ _ q => by obtain ⟨_, _, _, _, E, _⟩ := q; exact D282.iv.ext E) d_prog_10m3_100 rfl ?_
      intro v283 T283 h283 L283 q283 D283
      obtain ⟨y283, rfl, g283, N283, E283, X283⟩ := q283
      have NF283 := Fr.app NF278 N283
      replace X283 : LS Z h283 y283 [c7, c8] := X283
      show Go p e below _ (T283.setTop (mkF m 103 #[.val (.ref x), .val (.ref y), .val (.int (0 : Int32)), .val (.int (5 : Int32)), .val (.ref y278), .val (.int (6 : Int32)), .unset, .val (.int (9 : Int32))] [(.ref y283)]))
      refine g_astore D283 105 #[.val (.ref x), .val (.ref y), .val (.int (0 : Int32)), .val (.int (5 : Int32)), .val (.ref y278), .val (.int (6 : Int32)), .val (.ref y283), .val (.int (9 : Int32))] d_prog_10m3_103 rfl rfl rfl ?_
      refine g_iload D283 107 d_prog_10m3_105 rfl rfl ?_
      refine g_ifY D283 114 d_prog_10m3_107 (by decide) (by decide) (by decide) ?_
      refine g_aloadN D283 115 d_prog_10m3_114 rfl rfl rfl ?_
      refine g_bipush D283 117 (59 : Int32) d_prog_10m3_115 rfl rfl ?_
      refine g_iload D283 119 d_prog_10m3_117 rfl rfl ?_
      refine g_callVp D283 122 (hw _ w_103) (hw _ w_68) (notFace_of_selects (args := #[]) (mvT D283.wm (hw _ w_70))) (hw _ w_70) (hw _ w_69) (by decide) ((cIX2 l Z a0 hw [] x (59 : Int32) zc 9 [(59 : Int32), (59 : Int32), (32 : Int32), la, (9 : Int32), (61 : Int32), (34 : Int32), c7, c8, (34 : Int32), (59 : Int32), lb, (32 : Int32), (61 : Int32), c14, c15, c16, c17] h283 n0 (Nat.le_trans (Nat.le_trans (Nat.le_trans Z0 E277.1) E278.1) E283.1) (((OLD.ext E277).ext E278).ext E283) CS hzc (((X_x.ext E277).ext E278).ext E283) (by decide) (Nat.le_of_ble_eq_true rfl)).back D283 0 (hw _ w_71) (hw _ w_6) (by decide) (by decide)) ((((X_x.ext E277).ext E278).ext E283)).exa rfl [(.int (59 : Int32)), (.int (9 : Int32))] rfl (lenOf pd_1 rfl) rfl (Nat.le_of_eq rfl) (by decide) (by decide) d_prog_10m3_119 rfl ?_
      intro v284 T284 q284 D284
      obtain ⟨r284, rfl, c284⟩ := q284
      obtain rfl : r284 = (10 : Int32) := c284.is (j := 10) (by decide) (Nat.le_of_ble_eq_true rfl : 11 ≤ List.length [(59 : Int32), (59 : Int32), (32 : Int32), la, (9 : Int32), (61 : Int32), (34 : Int32), c7, c8, (34 : Int32), (59 : Int32), lb, (32 : Int32), (61 : Int32), c14, c15, c16, c17]) rfl (own_alS (show ¬ (34 : Int32) = (59 : Int32) by decide) own_al0)
      show Go p e below _ (T284.setTop (mkF m 122 #[.val (.ref x), .val (.ref y), .val (.int (0 : Int32)), .val (.int (5 : Int32)), .val (.ref y278), .val (.int (6 : Int32)), .val (.ref y283), .val (.int (9 : Int32))] [(.int (10 : Int32))]))
      refine g_istoreN D284 123 #[.val (.ref x), .val (.ref y), .val (.int (10 : Int32)), .val (.int (5 : Int32)), .val (.ref y278), .val (.int (6 : Int32)), .val (.ref y283), .val (.int (9 : Int32))] d_prog_10m3_122 rfl rfl ?_
      refine g_goto D284 158 d_prog_10m3_123 (by decide) (by decide) ?_
      refine g_aload D284 160 d_prog_10m3_158 rfl rfl rfl ?_
      refine g_aloadN D284 161 d_prog_10m3_160 rfl rfl rfl ?_
      refine g_callVp D284 164 (hw _ w_161) (hw _ w_162) (notFace_of_selects (args := #[]) (mvT D284.wm (hw _ w_164))) (hw _ w_164) (hw _ w_163) (by decide) ((cEI3 l Z a0 hw [] y278 y _ _ _ lq zc h283 n0 (Nat.le_trans (Nat.le_trans (Nat.le_trans Z0 E277.1) E278.1) E283.1) (((OLD.ext E277).ext E278).ext E283) CS hzc (X278.ext E283) (((X_y.ext E277).ext E278).ext E283) ne278).back D284 0 (hw _ w_165) (hw _ w_6) (by decide) (by decide)) ((X278.ext E283)).exa rfl [(.ref y)] rfl (lenOf pd_24 rfl) rfl (Nat.le_of_eq rfl) (by decide) (by decide) d_prog_10m3_161 rfl ?_
      intro v285 T285 q285 D285
      subst q285
      show Go p e below _ (T285.setTop (mkF m 164 #[.val (.ref x), .val (.ref y), .val (.int (10 : Int32)), .val (.int (5 : Int32)), .val (.ref y278), .val (.int (6 : Int32)), .val (.ref y283), .val (.int (9 : Int32))] [(.int (0 : Int32))]))
      refine g_ifY D285 170 d_prog_10m3_164 (by decide) (by decide) (by decide) ?_
      refine g_goto D285 13 d_prog_10m3_170 (by decide) (by decide) ?_
      exact cTn l Z a0 hw x y (59 : Int32) la (34 : Int32) c7 c8 (34 : Int32) lb c14 c15 c16 c17 lq zc fm v2 h0 h283 n0 (Nat.le_trans (Nat.le_trans (Nat.le_trans Z0 E277.1) E278.1) E283.1) hEW (Keep.toExt ((((Keep.refl _ []).ext E277).ext E278).ext E283)) (((OLD.ext E277).ext E278).ext E283) CS hzc SFm rfm (((X_x.ext E277).ext E278).ext E283) (((X_y.ext E277).ext E278).ext E283) hla hlq hlb hH2 _ (if_neg (fun g => g.1 rfl)) p e s m below meth c _ _ _ _ hret hlk NF283 y278 y283 _ (Or.inr rfl) (D285.more (by decide) (by decide))
  rcases hH1 with ⟨a1, a2, a3, a4, a5, rfl⟩ | ⟨rfl, rfl, a3, a4, rfl⟩
  · show Go p e below _ (s₁.setTop (mkF m 0 #[.val (.ref x), .val (.ref y), .unset, .unset, .unset, .unset, .unset, .unset] []))
    refine g_aloadN D0 1 d_prog_10m3_0 rfl rfl rfl ?_
    refine g_nnY D0 6 d_prog_10m3_1 (by decide) (by decide) ?_
    refine g_aloadN D0 7 d_prog_10m3_6 rfl rfl rfl ?_
    refine g_bipush D0 9 (59 : Int32) d_prog_10m3_7 rfl rfl ?_
    refine g_callVp D0 12 (hw _ w_62) (hw _ w_63) (notFace_of_selects (args := #[]) (mvT D0.wm (hw _ w_65))) (hw _ w_65) (hw _ w_64) (by decide) ((cIX1 l Z a0 hw [] x (59 : Int32) zc [c0, (59 : Int32), (32 : Int32), la, (9 : Int32), (61 : Int32), c6, c7, c8, c9, (59 : Int32), lb, (32 : Int32), (61 : Int32), c14, c15, c16, c17] h0 n0 Z0 OLD CS hzc X_x (by decide)).back D0 0 (hw _ w_66) (hw _ w_6) (by decide) (by decide)) (X_x).exa rfl [(.int (59 : Int32))] rfl (lenOf pd_21 rfl) rfl (Nat.le_of_eq rfl) (by decide) (by decide) d_prog_10m3_9 rfl ?_
    intro v286 T286 q286 D286
    obtain ⟨r286, rfl, c286⟩ := q286
    obtain rfl : r286 = (1 : Int32) := c286.is (j := 1) (by decide) (Nat.le_of_ble_eq_true rfl : 2 ≤ List.length [c0, (59 : Int32), (32 : Int32), la, (9 : Int32), (61 : Int32), c6, c7, c8, c9, (59 : Int32), lb, (32 : Int32), (61 : Int32), c14, c15, c16, c17]) rfl (own_alS hz own_al0)
    show Go p e below _ (T286.setTop (mkF m 12 #[.val (.ref x), .val (.ref y), .unset, .unset, .unset, .unset, .unset, .unset] [(.int (1 : Int32))]))
    refine g_istoreN D286 13 #[.val (.ref x), .val (.ref y), .val (.int (1 : Int32)), .unset, .unset, .unset, .unset, .unset] d_prog_10m3_12 rfl rfl ?_
    refine g_iloadN D286 14 d_prog_10m3_13 rfl rfl ?_
    refine g_ifN D286 17 d_prog_10m3_14 (by decide) rfl ?_
    refine g_aloadN D286 18 d_prog_10m3_17 rfl rfl rfl ?_
    refine g_bipush D286 20 (61 : Int32) d_prog_10m3_18 rfl rfl ?_
    refine g_iloadN D286 21 d_prog_10m3_20 rfl rfl ?_
    refine g_callVp D286 24 (hw _ w_103) (hw _ w_68) (notFace_of_selects (args := #[]) (mvT D286.wm (hw _ w_70))) (hw _ w_70) (hw _ w_69) (by decide) ((cIX2 l Z a0 hw [] x (61 : Int32) zc 1 [c0, (59 : Int32), (32 : Int32), la, (9 : Int32), (61 : Int32), c6, c7, c8, c9, (59 : Int32), lb, (32 : Int32), (61 : Int32), c14, c15, c16, c17] h0 n0 Z0 OLD CS hzc X_x (by decide) (Nat.le_of_ble_eq_true rfl)).back D286 0 (hw _ w_71) (hw _ w_6) (by decide) (by decide)) (X_x).exa rfl [(.int (61 : Int32)), (.int (1 : Int32))] rfl (lenOf pd_1 rfl) rfl (Nat.le_of_eq rfl) (by decide) (by decide) d_prog_10m3_21 rfl ?_
    intro v287 T287 q287 D287
    obtain ⟨r287, rfl, c287⟩ := q287
    obtain rfl : r287 = (5 : Int32) := c287.is (j := 5) (by decide) (Nat.le_of_ble_eq_true rfl : 6 ≤ List.length [c0, (59 : Int32), (32 : Int32), la, (9 : Int32), (61 : Int32), c6, c7, c8, c9, (59 : Int32), lb, (32 : Int32), (61 : Int32), c14, c15, c16, c17]) rfl (own_alS (show ¬ (59 : Int32) = (61 : Int32) by decide) (own_alS (show ¬ (32 : Int32) = (61 : Int32) by decide) (own_alS (own_isln hla).2.1 (own_alS (show ¬ (9 : Int32) = (61 : Int32) by decide) own_al0))))
    show Go p e below _ (T287.setTop (mkF m 24 #[.val (.ref x), .val (.ref y), .val (.int (1 : Int32)), .unset, .unset, .unset, .unset, .unset] [(.int (5 : Int32))]))
    refine g_istoreN D287 25 #[.val (.ref x), .val (.ref y), .val (.int (1 : Int32)), .val (.int (5 : Int32)), .unset, .unset, .unset, .unset] d_prog_10m3_24 rfl rfl ?_
    refine g_iloadN D287 26 d_prog_10m3_25 rfl rfl ?_
    refine g_ifY D287 31 d_prog_10m3_26 (by decide) (by decide) (by decide) ?_
    refine g_aloadN D287 32 d_prog_10m3_31 rfl rfl rfl ?_
    refine g_iloadN D287 33 d_prog_10m3_32 rfl rfl ?_
    refine g_iconst D287 34 (1 : Int32) d_prog_10m3_33 rfl rfl ?_
    refine g_iadd D287 35 d_prog_10m3_34 rfl ?_
    rw [show ((1 : Int32) + (1 : Int32)) = (2 : Int32) from by decide]
    refine g_iloadN D287 36 d_prog_10m3_35 rfl rfl ?_
    refine g_callV D287 39 (hw _ w_104) (hw _ w_105) (notFace_of_selects (args := #[]) (mvT D287.wm (hw _ w_107))) (hw _ w_107) (hw _ w_106) (by decide) ((cSub l Z a0 hw [] x [c0, (59 : Int32), (32 : Int32), la, (9 : Int32), (61 : Int32), c6, c7, c8, c9, (59 : Int32), lb, (32 : Int32), (61 : Int32), c14, c15, c16, c17] 2 5 zc fm h0 n0 Z0 OLD CS hzc SFm rfm X_x (by decide) (Nat.le_of_ble_eq_true rfl) (Nat.le_of_ble_eq_true rfl) (by decide)).back D287 0 (hw _ w_108) (hw _ w_6) (by decide) (by decide)) (X_x).exa rfl [(.int (2 : Int32)), (.int (5 : Int32))] rfl (lenOf pd_22 rfl) rfl (Nat.le_of_eq rfl) (by decide) (by decide) (fun _ _ _ q => by obtain ⟨_, _, _, _, E, _⟩ := q; exact D287.iv.ext E) d_prog_10m3_36 rfl ?_
    intro v288 T288 h288 L288 q288 D288
    obtain ⟨y288, rfl, g288, N288, E288, X288⟩ := q288
    have NF288 := Fr.app (Fr.nil n0) N288
    replace X288 : LS Z h288 y288 [(32 : Int32), la, (9 : Int32)] := X288
    show Go p e below _ (T288.setTop (mkF m 39 #[.val (.ref x), .val (.ref y), .val (.int (1 : Int32)), .val (.int (5 : Int32)), .unset, .unset, .unset, .unset] [(.ref y288)]))
    refine g_callV D288 42 (hw _ w_137) (hw _ w_138) (notFace_of_selects (args := #[]) (mvT D288.wm (hw _ w_140))) (hw _ w_140) (hw _ w_139) (by decide) ((cTr_n3 l Z a0 hw [] y288 zc la h288 n0 (Nat.le_trans Z0 E288.1) (OLD.ext E288) CS hzc X288 (own_isln hla).2.2).back D288 0 (hw _ w_141) (hw _ w_6) (by decide) (by decide)) (X288).exa rfl [] rfl (lenOf pd_23 rfl) rfl (Nat.le_of_eq rfl) (by decide) (by decide) (fun _ _ _ q => by obtain ⟨_, _, _, _, E, _⟩ := q; exact D288.iv.ext E) d_prog_10m3_39 rfl ?_
    intro v289 T289 h289 L289 q289 D289
    obtain ⟨y289, rfl, g289, N289, E289, X289⟩ := q289
    have NF289 := Fr.app NF288 N289
    rw [own_t3 (own_isln hla).2.2] at X289
    have ne289 : y289 ≠ y := Nat.ne_of_gt (Nat.lt_of_lt_of_le (X_y.ext E288).lt g289)
    show Go p e below _ (T289.setTop (mkF m 42 #[.val (.ref x), .val (.ref y), .val (.int (1 : Int32)), .val (.int (5 : Int32)), .unset, .unset, .unset, .unset] [(.ref y289)]))
    refine g_astore D289 44 #[.val (.ref x), .val (.ref y), .val (.int (1 : Int32)), .val (.int (5 : Int32)), .val (.ref y289), .unset, .unset, .unset] d_prog_10m3_42 rfl rfl rfl ?_
    refine g_iloadN D289 45 d_prog_10m3_44 rfl rfl ?_
    refine g_iconst D289 46 (1 : Int32) d_prog_10m3_45 rfl rfl ?_
    refine g_iadd D289 47 d_prog_10m3_46 rfl ?_
    rw [show ((5 : Int32) + (1 : Int32)) = (6 : Int32) from by decide]
    refine g_istore D289 49 #[.val (.ref x), .val (.ref y), .val (.int (1 : Int32)), .val (.int (5 : Int32)), .val (.ref y289), .val (.int (6 : Int32)), .unset, .unset] d_prog_10m3_47 rfl rfl ?_
    refine g_iload D289 51 d_prog_10m3_49 rfl rfl ?_
    refine g_aloadN D289 52 d_prog_10m3_51 rfl rfl rfl ?_
    refine g_callVp D289 55 (hw _ w_146) (hw _ w_78) (notFace_of_selects (args := #[]) (mvT D289.wm (hw _ w_80))) (hw _ w_80) (hw _ w_79) (by decide) (TS.lenB 1 D289 hw (LS.ts ((X_x.ext E288).ext E289)) (CS.ext ((OLD.ext E288).ext E289).2) hzc (by decide) (by decide)) (((X_x.ext E288).ext E289)).exa rfl [] rfl (lenOf pd_4 rfl) rfl (Nat.le_of_eq rfl) (by decide) (by decide) d_prog_10m3_52 rfl ?_
    intro v290 T290 q290 D290
    subst q290
    show Go p e below _ (T290.setTop (mkF m 55 #[.val (.ref x), .val (.ref y), .val (.int (1 : Int32)), .val (.int (5 : Int32)), .val (.ref y289), .val (.int (6 : Int32)), .unset, .unset] [(.int (18 : Int32)), (.int (6 : Int32))]))
    refine g_icmpN D290 58 d_prog_10m3_55 (by decide) rfl ?_
    refine g_aloadN D290 59 d_prog_10m3_58 rfl rfl rfl ?_
    refine g_iload D290 61 d_prog_10m3_59 rfl rfl ?_
    obtain ⟨t291, kt291, x291a, x291b, x291c, x291d, x291e, x291f⟩ := (id ((X_x.ext E288).ext E289))
    refine g_callVp D290 64 (hw _ w_147) (hw _ w_148) (notFace_of_selects (args := #[]) (mvT D290.wm (hw _ w_150))) (hw _ w_150) (hw _ w_149) (by decide) (StrChars.Road.chN (W := 0) D290.wm (fun d hd => hw d (wchn d hd)) (kI := 4) (hw _ w_14) (i := 6) x291a x291c x291b x291d (StrChars.Road.codOf rfl (fun c hc => (x291e c hc).2)) (up255 x291e) (CS.ext ((OLD.ext E288).ext E289).2) hzc (SFm.ext ((OLD.ext E288).ext E289).2) rfm x291f (Nat.le_of_ble_eq_true rfl : 7 ≤ _) rfl (by decide) (by decide)) x291a rfl [(.int (6 : Int32))] rfl (lenOf pd_18 rfl) rfl (Nat.le_of_eq rfl) (by decide) (by decide) d_prog_10m3_61 rfl ?_
    intro v292 T292 q292 D292
    subst q292
    show Go p e below _ (T292.setTop (mkF m 64 #[.val (.ref x), .val (.ref y), .val (.int (1 : Int32)), .val (.int (5 : Int32)), .val (.ref y289), .val (.int (6 : Int32)), .unset, .unset] [(.int c6)]))
    refine g_bipush D292 66 (34 : Int32) d_prog_10m3_64 rfl rfl ?_
    refine g_icmpY D292 126 d_prog_10m3_66 (feq a1).2 (by decide) (by decide) ?_
    refine g_aloadN D292 127 d_prog_10m3_126 rfl rfl rfl ?_
    refine g_bipush D292 129 (59 : Int32) d_prog_10m3_127 rfl rfl ?_
    refine g_iload D292 131 d_prog_10m3_129 rfl rfl ?_
    refine g_callVp D292 134 (hw _ w_103) (hw _ w_68) (notFace_of_selects (args := #[]) (mvT D292.wm (hw _ w_70))) (hw _ w_70) (hw _ w_69) (by decide) ((cIX2 l Z a0 hw [] x (59 : Int32) zc 6 [c0, (59 : Int32), (32 : Int32), la, (9 : Int32), (61 : Int32), c6, c7, c8, c9, (59 : Int32), lb, (32 : Int32), (61 : Int32), c14, c15, c16, c17] h289 n0 (Nat.le_trans (Nat.le_trans Z0 E288.1) E289.1) ((OLD.ext E288).ext E289) CS hzc ((X_x.ext E288).ext E289) (by decide) (Nat.le_of_ble_eq_true rfl)).back D292 0 (hw _ w_71) (hw _ w_6) (by decide) (by decide)) (((X_x.ext E288).ext E289)).exa rfl [(.int (59 : Int32)), (.int (6 : Int32))] rfl (lenOf pd_1 rfl) rfl (Nat.le_of_eq rfl) (by decide) (by decide) d_prog_10m3_131 rfl ?_
    intro v293 T293 q293 D293
    obtain ⟨r293, rfl, c293⟩ := q293
    obtain rfl : r293 = (10 : Int32) := c293.is (j := 10) (by decide) (Nat.le_of_ble_eq_true rfl : 11 ≤ List.length [c0, (59 : Int32), (32 : Int32), la, (9 : Int32), (61 : Int32), c6, c7, c8, c9, (59 : Int32), lb, (32 : Int32), (61 : Int32), c14, c15, c16, c17]) rfl (own_alS a2 (own_alS a3 (own_alS a4 (own_alS a5 own_al0))))
    show Go p e below _ (T293.setTop (mkF m 134 #[.val (.ref x), .val (.ref y), .val (.int (1 : Int32)), .val (.int (5 : Int32)), .val (.ref y289), .val (.int (6 : Int32)), .unset, .unset] [(.int (10 : Int32))]))
    refine g_istoreN D293 135 #[.val (.ref x), .val (.ref y), .val (.int (10 : Int32)), .val (.int (5 : Int32)), .val (.ref y289), .val (.int (6 : Int32)), .unset, .unset] d_prog_10m3_134 rfl rfl ?_
    refine g_aloadN D293 136 d_prog_10m3_135 rfl rfl rfl ?_
    refine g_iload D293 138 d_prog_10m3_136 rfl rfl ?_
    refine g_iloadN D293 139 d_prog_10m3_138 rfl rfl ?_
    refine g_ifY D293 149 d_prog_10m3_139 (by decide) (by decide) (by decide) ?_
    refine g_iloadN D293 150 d_prog_10m3_149 rfl rfl ?_
    refine g_callV D293 153 (hw _ w_104) (hw _ w_105) (notFace_of_selects (args := #[]) (mvT D293.wm (hw _ w_107))) (hw _ w_107) (hw _ w_106) (by decide) ((cSub l Z a0 hw [] x [c0, (59 : Int32), (32 : Int32), la, (9 : Int32), (61 : Int32), c6, c7, c8, c9, (59 : Int32), lb, (32 : Int32), (61 : Int32), c14, c15, c16, c17] 6 10 zc fm h289 n0 (Nat.le_trans (Nat.le_trans Z0 E288.1) E289.1) ((OLD.ext E288).ext E289) CS hzc SFm rfm ((X_x.ext E288).ext E289) (by decide) (Nat.le_of_ble_eq_true rfl) (Nat.le_of_ble_eq_true rfl) (by decide)).back D293 0 (hw _ w_108) (hw _ w_6) (by decide) (by decide)) (((X_x.ext E288).ext E289)).exa rfl [(.int (6 : Int32)), (.int (10 : Int32))] rfl (lenOf pd_22 rfl) rfl (Nat.le_of_eq rfl) (by decide) (by decide) (fun _ _ _ q => by obtain ⟨_, _, _, _, E, _⟩ := q; exact D293.iv.ext E) d_prog_10m3_150 rfl ?_
    intro v294 T294 h294 L294 q294 D294
    obtain ⟨y294, rfl, g294, N294, E294, X294⟩ := q294
    have NF294 := Fr.app NF289 N294
    replace X294 : LS Z h294 y294 [c6, c7, c8, c9] := X294
    show Go p e below _ (T294.setTop (mkF m 153 #[.val (.ref x), .val (.ref y), .val (.int (10 : Int32)), .val (.int (5 : Int32)), .val (.ref y289), .val (.int (6 : Int32)), .unset, .unset] [(.ref y294)]))
    refine g_callVW D294 156 hEW (hw _ w_137) (hw _ w_138) (notFace_of_selects (args := #[]) (mvT D294.wm (hw _ w_140))) (hw _ w_140) (hw _ w_139) (hw _ w_6) (hw _ w_141) (by decide) (cTr_v4 l Z a0 hw [] y294 zc c6 c7 c8 c9 h294 n0 (Nat.le_trans (Nat.le_trans (Nat.le_trans Z0 E288.1) E289.1) E294.1) hEW (((OLD.ext E288).ext E289).ext E294) CS hzc X294) (X294).exa rfl [] rfl (lenOf pd_23 rfl) rfl 0 (Nat.le_of_eq rfl) (by decide) (by decide) (by decide) (by decide) d_prog_10m3_153 rfl ?_
    intro v295 s295 T295 h295 L295 q295 SF295 D295
    obtain ⟨y295, rfl, N295, E295, X295⟩ := q295
    have NF295 := Fr.app NF294 N295
    show Go p e below _ (T295.setTop (mkF m 156 #[.val (.ref x), .val (.ref y), .val (.int (10 : Int32)), .val (.int (5 : Int32)), .val (.ref y289), .val (.int (6 : Int32)), .unset, .unset] [(.ref y295)]))
    refine g_astore D295 158 #[.val (.ref x), .val (.ref y), .val (.int (10 : Int32)), .val (.int (5 : Int32)), .val (.ref y289), .val (.int (6 : Int32)), .val (.ref y295), .unset] d_prog_10m3_156 rfl rfl rfl ?_
    refine g_aload D295 160 d_prog_10m3_158 rfl rfl rfl ?_
    refine g_aloadN D295 161 d_prog_10m3_160 rfl rfl rfl ?_
    refine g_callVp D295 164 (hw _ w_161) (hw _ w_162) (notFace_of_selects (args := #[]) (mvT D295.wm (hw _ w_164))) (hw _ w_164) (hw _ w_163) (by decide) ((cEI1 l Z a0 hw [] y289 y la lq zc h295 n0 (Nat.le_trans (Nat.le_trans (Nat.le_trans (Nat.le_trans Z0 E288.1) E289.1) E294.1) E295.1) ((((OLD.ext E288).ext E289).ext E294).ext E295) CS hzc ((X289.ext E294).ext E295) ((((X_y.ext E288).ext E289).ext E294).ext E295) hla hlq ne289).back D295 0 (hw _ w_165) (hw _ w_6) (by decide) (by decide)) (((X289.ext E294).ext E295)).exa rfl [(.ref y)] rfl (lenOf pd_24 rfl) rfl (Nat.le_of_eq rfl) (by decide) (by decide) d_prog_10m3_161 rfl ?_
    intro v296 T296 q296 D296
    subst q296
    show Go p e below _ (T296.setTop (mkF m 164 #[.val (.ref x), .val (.ref y), .val (.int (10 : Int32)), .val (.int (5 : Int32)), .val (.ref y289), .val (.int (6 : Int32)), .val (.ref y295), .unset] [(.int (own_ci la lq))]))
    by_cases kk : (own_ci la lq) = (0 : Int32)
    · refine g_ifY D296 170 d_prog_10m3_164 (teq kk).1 (by decide) (by decide) ?_
      refine g_goto D296 13 d_prog_10m3_170 (by decide) (by decide) ?_
      exact cTn l Z a0 hw x y c0 la c6 c7 c8 c9 lb c14 c15 c16 c17 lq zc fm v2 h0 h295 n0 (Nat.le_trans (Nat.le_trans (Nat.le_trans (Nat.le_trans Z0 E288.1) E289.1) E294.1) E295.1) hEW (Keep.toExt (((((Keep.refl _ []).ext E288).ext E289).ext E294).ext E295)) ((((OLD.ext E288).ext E289).ext E294).ext E295) CS hzc SFm rfm ((((X_x.ext E288).ext E289).ext E294).ext E295) ((((X_y.ext E288).ext E289).ext E294).ext E295) hla hlq hlb hH2 _ (if_neg (fun g => g.2 kk)) p e s m below meth c _ _ _ _ hret hlk NF295 y289 y295 _ (Or.inl rfl) (D296.more (by decide) (by decide))
    refine g_ifN D296 167 d_prog_10m3_164 (feq kk).1 rfl ?_
    refine g_aload D296 169 d_prog_10m3_167 rfl rfl rfl ?_
    exact r_Aw D296 hEW hret rfl rfl hlk d_prog_10m3_169 ⟨.ref y295, rfl, NF295, Keep.toExt (((((Keep.refl _ []).ext E288).ext E289).ext E294).ext E295), (by rw [if_pos ⟨hz, kk⟩]; exact ⟨_, rfl, X295⟩)⟩ (by decide) (by decide)
  · show Go p e below _ (s₁.setTop (mkF m 0 #[.val (.ref x), .val (.ref y), .unset, .unset, .unset, .unset, .unset, .unset] []))
    refine g_aloadN D0 1 d_prog_10m3_0 rfl rfl rfl ?_
    refine g_nnY D0 6 d_prog_10m3_1 (by decide) (by decide) ?_
    refine g_aloadN D0 7 d_prog_10m3_6 rfl rfl rfl ?_
    refine g_bipush D0 9 (59 : Int32) d_prog_10m3_7 rfl rfl ?_
    refine g_callVp D0 12 (hw _ w_62) (hw _ w_63) (notFace_of_selects (args := #[]) (mvT D0.wm (hw _ w_65))) (hw _ w_65) (hw _ w_64) (by decide) ((cIX1 l Z a0 hw [] x (59 : Int32) zc [c0, (59 : Int32), (32 : Int32), la, (9 : Int32), (61 : Int32), (34 : Int32), c7, c8, (34 : Int32), (59 : Int32), lb, (32 : Int32), (61 : Int32), c14, c15, c16, c17] h0 n0 Z0 OLD CS hzc X_x (by decide)).back D0 0 (hw _ w_66) (hw _ w_6) (by decide) (by decide)) (X_x).exa rfl [(.int (59 : Int32))] rfl (lenOf pd_21 rfl) rfl (Nat.le_of_eq rfl) (by decide) (by decide) d_prog_10m3_9 rfl ?_
    intro v297 T297 q297 D297
    obtain ⟨r297, rfl, c297⟩ := q297
    obtain rfl : r297 = (1 : Int32) := c297.is (j := 1) (by decide) (Nat.le_of_ble_eq_true rfl : 2 ≤ List.length [c0, (59 : Int32), (32 : Int32), la, (9 : Int32), (61 : Int32), (34 : Int32), c7, c8, (34 : Int32), (59 : Int32), lb, (32 : Int32), (61 : Int32), c14, c15, c16, c17]) rfl (own_alS hz own_al0)
    show Go p e below _ (T297.setTop (mkF m 12 #[.val (.ref x), .val (.ref y), .unset, .unset, .unset, .unset, .unset, .unset] [(.int (1 : Int32))]))
    refine g_istoreN D297 13 #[.val (.ref x), .val (.ref y), .val (.int (1 : Int32)), .unset, .unset, .unset, .unset, .unset] d_prog_10m3_12 rfl rfl ?_
    refine g_iloadN D297 14 d_prog_10m3_13 rfl rfl ?_
    refine g_ifN D297 17 d_prog_10m3_14 (by decide) rfl ?_
    refine g_aloadN D297 18 d_prog_10m3_17 rfl rfl rfl ?_
    refine g_bipush D297 20 (61 : Int32) d_prog_10m3_18 rfl rfl ?_
    refine g_iloadN D297 21 d_prog_10m3_20 rfl rfl ?_
    refine g_callVp D297 24 (hw _ w_103) (hw _ w_68) (notFace_of_selects (args := #[]) (mvT D297.wm (hw _ w_70))) (hw _ w_70) (hw _ w_69) (by decide) ((cIX2 l Z a0 hw [] x (61 : Int32) zc 1 [c0, (59 : Int32), (32 : Int32), la, (9 : Int32), (61 : Int32), (34 : Int32), c7, c8, (34 : Int32), (59 : Int32), lb, (32 : Int32), (61 : Int32), c14, c15, c16, c17] h0 n0 Z0 OLD CS hzc X_x (by decide) (Nat.le_of_ble_eq_true rfl)).back D297 0 (hw _ w_71) (hw _ w_6) (by decide) (by decide)) (X_x).exa rfl [(.int (61 : Int32)), (.int (1 : Int32))] rfl (lenOf pd_1 rfl) rfl (Nat.le_of_eq rfl) (by decide) (by decide) d_prog_10m3_21 rfl ?_
    intro v298 T298 q298 D298
    obtain ⟨r298, rfl, c298⟩ := q298
    obtain rfl : r298 = (5 : Int32) := c298.is (j := 5) (by decide) (Nat.le_of_ble_eq_true rfl : 6 ≤ List.length [c0, (59 : Int32), (32 : Int32), la, (9 : Int32), (61 : Int32), (34 : Int32), c7, c8, (34 : Int32), (59 : Int32), lb, (32 : Int32), (61 : Int32), c14, c15, c16, c17]) rfl (own_alS (show ¬ (59 : Int32) = (61 : Int32) by decide) (own_alS (show ¬ (32 : Int32) = (61 : Int32) by decide) (own_alS (own_isln hla).2.1 (own_alS (show ¬ (9 : Int32) = (61 : Int32) by decide) own_al0))))
    show Go p e below _ (T298.setTop (mkF m 24 #[.val (.ref x), .val (.ref y), .val (.int (1 : Int32)), .unset, .unset, .unset, .unset, .unset] [(.int (5 : Int32))]))
    refine g_istoreN D298 25 #[.val (.ref x), .val (.ref y), .val (.int (1 : Int32)), .val (.int (5 : Int32)), .unset, .unset, .unset, .unset] d_prog_10m3_24 rfl rfl ?_
    refine g_iloadN D298 26 d_prog_10m3_25 rfl rfl ?_
    refine g_ifY D298 31 d_prog_10m3_26 (by decide) (by decide) (by decide) ?_
    refine g_aloadN D298 32 d_prog_10m3_31 rfl rfl rfl ?_
    refine g_iloadN D298 33 d_prog_10m3_32 rfl rfl ?_
    refine g_iconst D298 34 (1 : Int32) d_prog_10m3_33 rfl rfl ?_
    refine g_iadd D298 35 d_prog_10m3_34 rfl ?_
    rw [show ((1 : Int32) + (1 : Int32)) = (2 : Int32) from by decide]
    refine g_iloadN D298 36 d_prog_10m3_35 rfl rfl ?_
    refine g_callV D298 39 (hw _ w_104) (hw _ w_105) (notFace_of_selects (args := #[]) (mvT D298.wm (hw _ w_107))) (hw _ w_107) (hw _ w_106) (by decide) ((cSub l Z a0 hw [] x [c0, (59 : Int32), (32 : Int32), la, (9 : Int32), (61 : Int32), (34 : Int32), c7, c8, (34 : Int32), (59 : Int32), lb, (32 : Int32), (61 : Int32), c14, c15, c16, c17] 2 5 zc fm h0 n0 Z0 OLD CS hzc SFm rfm X_x (by decide) (Nat.le_of_ble_eq_true rfl) (Nat.le_of_ble_eq_true rfl) (by decide)).back D298 0 (hw _ w_108) (hw _ w_6) (by decide) (by decide)) (X_x).exa rfl [(.int (2 : Int32)), (.int (5 : Int32))] rfl (lenOf pd_22 rfl) rfl (Nat.le_of_eq rfl) (by decide) (by decide) (fun _ _ _ q => by obtain ⟨_, _, _, _, E, _⟩ := q; exact D298.iv.ext E) d_prog_10m3_36 rfl ?_
    intro v299 T299 h299 L299 q299 D299
    obtain ⟨y299, rfl, g299, N299, E299, X299⟩ := q299
    have NF299 := Fr.app (Fr.nil n0) N299
    replace X299 : LS Z h299 y299 [(32 : Int32), la, (9 : Int32)] := X299
    show Go p e below _ (T299.setTop (mkF m 39 #[.val (.ref x), .val (.ref y), .val (.int (1 : Int32)), .val (.int (5 : Int32)), .unset, .unset, .unset, .unset] [(.ref y299)]))
    refine g_callV D299 42 (hw _ w_137) (hw _ w_138) (notFace_of_selects (args := #[]) (mvT D299.wm (hw _ w_140))) (hw _ w_140) (hw _ w_139) (by decide) ((cTr_n3 l Z a0 hw [] y299 zc la h299 n0 (Nat.le_trans Z0 E299.1) (OLD.ext E299) CS hzc X299 (own_isln hla).2.2).back D299 0 (hw _ w_141) (hw _ w_6) (by decide) (by decide)) (X299).exa rfl [] rfl (lenOf pd_23 rfl) rfl (Nat.le_of_eq rfl) (by decide) (by decide) (fun _ _ _ q => by obtain ⟨_, _, _, _, E, _⟩ := q; exact D299.iv.ext E) d_prog_10m3_39 rfl ?_
    intro v300 T300 h300 L300 q300 D300
    obtain ⟨y300, rfl, g300, N300, E300, X300⟩ := q300
    have NF300 := Fr.app NF299 N300
    rw [own_t3 (own_isln hla).2.2] at X300
    have ne300 : y300 ≠ y := Nat.ne_of_gt (Nat.lt_of_lt_of_le (X_y.ext E299).lt g300)
    show Go p e below _ (T300.setTop (mkF m 42 #[.val (.ref x), .val (.ref y), .val (.int (1 : Int32)), .val (.int (5 : Int32)), .unset, .unset, .unset, .unset] [(.ref y300)]))
    refine g_astore D300 44 #[.val (.ref x), .val (.ref y), .val (.int (1 : Int32)), .val (.int (5 : Int32)), .val (.ref y300), .unset, .unset, .unset] d_prog_10m3_42 rfl rfl rfl ?_
    refine g_iloadN D300 45 d_prog_10m3_44 rfl rfl ?_
    refine g_iconst D300 46 (1 : Int32) d_prog_10m3_45 rfl rfl ?_
    refine g_iadd D300 47 d_prog_10m3_46 rfl ?_
    rw [show ((5 : Int32) + (1 : Int32)) = (6 : Int32) from by decide]
    refine g_istore D300 49 #[.val (.ref x), .val (.ref y), .val (.int (1 : Int32)), .val (.int (5 : Int32)), .val (.ref y300), .val (.int (6 : Int32)), .unset, .unset] d_prog_10m3_47 rfl rfl ?_
    refine g_iload D300 51 d_prog_10m3_49 rfl rfl ?_
    refine g_aloadN D300 52 d_prog_10m3_51 rfl rfl rfl ?_
    refine g_callVp D300 55 (hw _ w_146) (hw _ w_78) (notFace_of_selects (args := #[]) (mvT D300.wm (hw _ w_80))) (hw _ w_80) (hw _ w_79) (by decide) (TS.lenB 1 D300 hw (LS.ts ((X_x.ext E299).ext E300)) (CS.ext ((OLD.ext E299).ext E300).2) hzc (by decide) (by decide)) (((X_x.ext E299).ext E300)).exa rfl [] rfl (lenOf pd_4 rfl) rfl (Nat.le_of_eq rfl) (by decide) (by decide) d_prog_10m3_52 rfl ?_
    intro v301 T301 q301 D301
    subst q301
    show Go p e below _ (T301.setTop (mkF m 55 #[.val (.ref x), .val (.ref y), .val (.int (1 : Int32)), .val (.int (5 : Int32)), .val (.ref y300), .val (.int (6 : Int32)), .unset, .unset] [(.int (18 : Int32)), (.int (6 : Int32))]))
    refine g_icmpN D301 58 d_prog_10m3_55 (by decide) rfl ?_
    refine g_aloadN D301 59 d_prog_10m3_58 rfl rfl rfl ?_
    refine g_iload D301 61 d_prog_10m3_59 rfl rfl ?_
    obtain ⟨t302, kt302, x302a, x302b, x302c, x302d, x302e, x302f⟩ := (id ((X_x.ext E299).ext E300))
    refine g_callVp D301 64 (hw _ w_147) (hw _ w_148) (notFace_of_selects (args := #[]) (mvT D301.wm (hw _ w_150))) (hw _ w_150) (hw _ w_149) (by decide) (StrChars.Road.chN (W := 0) D301.wm (fun d hd => hw d (wchn d hd)) (kI := 4) (hw _ w_14) (i := 6) x302a x302c x302b x302d (StrChars.Road.codOf rfl (fun c hc => (x302e c hc).2)) (up255 x302e) (CS.ext ((OLD.ext E299).ext E300).2) hzc (SFm.ext ((OLD.ext E299).ext E300).2) rfm x302f (Nat.le_of_ble_eq_true rfl : 7 ≤ _) rfl (by decide) (by decide)) x302a rfl [(.int (6 : Int32))] rfl (lenOf pd_18 rfl) rfl (Nat.le_of_eq rfl) (by decide) (by decide) d_prog_10m3_61 rfl ?_
    intro v303 T303 q303 D303
    subst q303
    show Go p e below _ (T303.setTop (mkF m 64 #[.val (.ref x), .val (.ref y), .val (.int (1 : Int32)), .val (.int (5 : Int32)), .val (.ref y300), .val (.int (6 : Int32)), .unset, .unset] [(.int (34 : Int32))]))
    refine g_bipush D303 66 (34 : Int32) d_prog_10m3_64 rfl rfl ?_
    refine g_icmpN D303 69 d_prog_10m3_66 (by decide) rfl ?_
    refine g_aloadN D303 70 d_prog_10m3_69 rfl rfl rfl ?_
    refine g_bipush D303 72 (34 : Int32) d_prog_10m3_70 rfl rfl ?_
    refine g_iload D303 74 d_prog_10m3_72 rfl rfl ?_
    refine g_iconst D303 75 (1 : Int32) d_prog_10m3_74 rfl rfl ?_
    refine g_iadd D303 76 d_prog_10m3_75 rfl ?_
    rw [show ((6 : Int32) + (1 : Int32)) = (7 : Int32) from by decide]
    refine g_callVp D303 79 (hw _ w_103) (hw _ w_68) (notFace_of_selects (args := #[]) (mvT D303.wm (hw _ w_70))) (hw _ w_70) (hw _ w_69) (by decide) ((cIX2 l Z a0 hw [] x (34 : Int32) zc 7 [c0, (59 : Int32), (32 : Int32), la, (9 : Int32), (61 : Int32), (34 : Int32), c7, c8, (34 : Int32), (59 : Int32), lb, (32 : Int32), (61 : Int32), c14, c15, c16, c17] h300 n0 (Nat.le_trans (Nat.le_trans Z0 E299.1) E300.1) ((OLD.ext E299).ext E300) CS hzc ((X_x.ext E299).ext E300) (by decide) (Nat.le_of_ble_eq_true rfl)).back D303 0 (hw _ w_71) (hw _ w_6) (by decide) (by decide)) (((X_x.ext E299).ext E300)).exa rfl [(.int (34 : Int32)), (.int (7 : Int32))] rfl (lenOf pd_1 rfl) rfl (Nat.le_of_eq rfl) (by decide) (by decide) d_prog_10m3_76 rfl ?_
    intro v304 T304 q304 D304
    obtain ⟨r304, rfl, c304⟩ := q304
    obtain rfl : r304 = (9 : Int32) := c304.is (j := 9) (by decide) (Nat.le_of_ble_eq_true rfl : 10 ≤ List.length [c0, (59 : Int32), (32 : Int32), la, (9 : Int32), (61 : Int32), (34 : Int32), c7, c8, (34 : Int32), (59 : Int32), lb, (32 : Int32), (61 : Int32), c14, c15, c16, c17]) rfl (own_alS a3 (own_alS a4 own_al0))
    show Go p e below _ (T304.setTop (mkF m 79 #[.val (.ref x), .val (.ref y), .val (.int (1 : Int32)), .val (.int (5 : Int32)), .val (.ref y300), .val (.int (6 : Int32)), .unset, .unset] [(.int (9 : Int32))]))
    refine g_istore D304 81 #[.val (.ref x), .val (.ref y), .val (.int (1 : Int32)), .val (.int (5 : Int32)), .val (.ref y300), .val (.int (6 : Int32)), .unset, .val (.int (9 : Int32))] d_prog_10m3_79 rfl rfl ?_
    refine g_aloadN D304 82 d_prog_10m3_81 rfl rfl rfl ?_
    refine g_iload D304 84 d_prog_10m3_82 rfl rfl ?_
    refine g_iconst D304 85 (1 : Int32) d_prog_10m3_84 rfl rfl ?_
    refine g_iadd D304 86 d_prog_10m3_85 rfl ?_
    rw [show ((6 : Int32) + (1 : Int32)) = (7 : Int32) from by decide]
    refine g_iload D304 88 d_prog_10m3_86 rfl rfl ?_
    refine g_ifY D304 98 d_prog_10m3_88 (by decide) (by decide) (by decide) ?_
    refine g_iload D304 100 d_prog_10m3_98 rfl rfl ?_
    refine g_callV D304 103 (hw _ w_104) (hw _ w_105) (notFace_of_selects (args := #[]) (mvT D304.wm (hw _ w_107))) (hw _ w_107) (hw _ w_106) (by decide) ((cSub l Z a0 hw [] x [c0, (59 : Int32), (32 : Int32), la, (9 : Int32), (61 : Int32), (34 : Int32), c7, c8, (34 : Int32), (59 : Int32), lb, (32 : Int32), (61 : Int32), c14, c15, c16, c17] 7 9 zc fm h300 n0 (Nat.le_trans (Nat.le_trans Z0 E299.1) E300.1) ((OLD.ext E299).ext E300) CS hzc SFm rfm ((X_x.ext E299).ext E300) (by decide) (Nat.le_of_ble_eq_true rfl) (Nat.le_of_ble_eq_true rfl) (by decide)).back D304 0 (hw _ w_108) (hw _ w_6) (by decide) (by decide)) (((X_x.ext E299).ext E300)).exa rfl [(.int (7 : Int32)), (.int (9 : Int32))] rfl (lenOf pd_22 rfl) rfl (Nat.le_of_eq rfl) (by decide) (by decide) (fun _ _ _ q => by obtain ⟨_, _, _, _, E, _⟩ := q; exact D304.iv.ext E) d_prog_10m3_100 rfl ?_
    intro v305 T305 h305 L305 q305 D305
    obtain ⟨y305, rfl, g305, N305, E305, X305⟩ := q305
    have NF305 := Fr.app NF300 N305
    replace X305 : LS Z h305 y305 [c7, c8] := X305
    show Go p e below _ (T305.setTop (mkF m 103 #[.val (.ref x), .val (.ref y), .val (.int (1 : Int32)), .val (.int (5 : Int32)), .val (.ref y300), .val (.int (6 : Int32)), .unset, .val (.int (9 : Int32))] [(.ref y305)]))
    refine g_astore D305 105 #[.val (.ref x), .val (.ref y), .val (.int (1 : Int32)), .val (.int (5 : Int32)), .val (.ref y300), .val (.int (6 : Int32)), .val (.ref y305), .val (.int (9 : Int32))] d_prog_10m3_103 rfl rfl rfl ?_
    refine g_iload D305 107 d_prog_10m3_105 rfl rfl ?_
    refine g_ifY D305 114 d_prog_10m3_107 (by decide) (by decide) (by decide) ?_
    refine g_aloadN D305 115 d_prog_10m3_114 rfl rfl rfl ?_
    refine g_bipush D305 117 (59 : Int32) d_prog_10m3_115 rfl rfl ?_
    refine g_iload D305 119 d_prog_10m3_117 rfl rfl ?_
    refine g_callVp D305 122 (hw _ w_103) (hw _ w_68) (notFace_of_selects (args := #[]) (mvT D305.wm (hw _ w_70))) (hw _ w_70) (hw _ w_69) (by decide) ((cIX2 l Z a0 hw [] x (59 : Int32) zc 9 [c0, (59 : Int32), (32 : Int32), la, (9 : Int32), (61 : Int32), (34 : Int32), c7, c8, (34 : Int32), (59 : Int32), lb, (32 : Int32), (61 : Int32), c14, c15, c16, c17] h305 n0 (Nat.le_trans (Nat.le_trans (Nat.le_trans Z0 E299.1) E300.1) E305.1) (((OLD.ext E299).ext E300).ext E305) CS hzc (((X_x.ext E299).ext E300).ext E305) (by decide) (Nat.le_of_ble_eq_true rfl)).back D305 0 (hw _ w_71) (hw _ w_6) (by decide) (by decide)) ((((X_x.ext E299).ext E300).ext E305)).exa rfl [(.int (59 : Int32)), (.int (9 : Int32))] rfl (lenOf pd_1 rfl) rfl (Nat.le_of_eq rfl) (by decide) (by decide) d_prog_10m3_119 rfl ?_
    intro v306 T306 q306 D306
    obtain ⟨r306, rfl, c306⟩ := q306
    obtain rfl : r306 = (10 : Int32) := c306.is (j := 10) (by decide) (Nat.le_of_ble_eq_true rfl : 11 ≤ List.length [c0, (59 : Int32), (32 : Int32), la, (9 : Int32), (61 : Int32), (34 : Int32), c7, c8, (34 : Int32), (59 : Int32), lb, (32 : Int32), (61 : Int32), c14, c15, c16, c17]) rfl (own_alS (show ¬ (34 : Int32) = (59 : Int32) by decide) own_al0)
    show Go p e below _ (T306.setTop (mkF m 122 #[.val (.ref x), .val (.ref y), .val (.int (1 : Int32)), .val (.int (5 : Int32)), .val (.ref y300), .val (.int (6 : Int32)), .val (.ref y305), .val (.int (9 : Int32))] [(.int (10 : Int32))]))
    refine g_istoreN D306 123 #[.val (.ref x), .val (.ref y), .val (.int (10 : Int32)), .val (.int (5 : Int32)), .val (.ref y300), .val (.int (6 : Int32)), .val (.ref y305), .val (.int (9 : Int32))] d_prog_10m3_122 rfl rfl ?_
    refine g_goto D306 158 d_prog_10m3_123 (by decide) (by decide) ?_
    refine g_aload D306 160 d_prog_10m3_158 rfl rfl rfl ?_
    refine g_aloadN D306 161 d_prog_10m3_160 rfl rfl rfl ?_
    refine g_callVp D306 164 (hw _ w_161) (hw _ w_162) (notFace_of_selects (args := #[]) (mvT D306.wm (hw _ w_164))) (hw _ w_164) (hw _ w_163) (by decide) ((cEI1 l Z a0 hw [] y300 y la lq zc h305 n0 (Nat.le_trans (Nat.le_trans (Nat.le_trans Z0 E299.1) E300.1) E305.1) (((OLD.ext E299).ext E300).ext E305) CS hzc (X300.ext E305) (((X_y.ext E299).ext E300).ext E305) hla hlq ne300).back D306 0 (hw _ w_165) (hw _ w_6) (by decide) (by decide)) ((X300.ext E305)).exa rfl [(.ref y)] rfl (lenOf pd_24 rfl) rfl (Nat.le_of_eq rfl) (by decide) (by decide) d_prog_10m3_161 rfl ?_
    intro v307 T307 q307 D307
    subst q307
    show Go p e below _ (T307.setTop (mkF m 164 #[.val (.ref x), .val (.ref y), .val (.int (10 : Int32)), .val (.int (5 : Int32)), .val (.ref y300), .val (.int (6 : Int32)), .val (.ref y305), .val (.int (9 : Int32))] [(.int (own_ci la lq))]))
    by_cases kk : (own_ci la lq) = (0 : Int32)
    · refine g_ifY D307 170 d_prog_10m3_164 (teq kk).1 (by decide) (by decide) ?_
      refine g_goto D307 13 d_prog_10m3_170 (by decide) (by decide) ?_
      exact cTn l Z a0 hw x y c0 la (34 : Int32) c7 c8 (34 : Int32) lb c14 c15 c16 c17 lq zc fm v2 h0 h305 n0 (Nat.le_trans (Nat.le_trans (Nat.le_trans Z0 E299.1) E300.1) E305.1) hEW (Keep.toExt ((((Keep.refl _ []).ext E299).ext E300).ext E305)) (((OLD.ext E299).ext E300).ext E305) CS hzc SFm rfm (((X_x.ext E299).ext E300).ext E305) (((X_y.ext E299).ext E300).ext E305) hla hlq hlb hH2 _ (if_neg (fun g => g.2 kk)) p e s m below meth c _ _ _ _ hret hlk NF305 y300 y305 _ (Or.inr rfl) (D307.more (by decide) (by decide))
    refine g_ifN D307 167 d_prog_10m3_164 (feq kk).1 rfl ?_
    refine g_aload D307 169 d_prog_10m3_167 rfl rfl rfl ?_
    exact r_Aw D307 hEW hret rfl rfl hlk d_prog_10m3_169 ⟨.ref y305, rfl, NF305, Keep.toExt ((((Keep.refl _ []).ext E299).ext E300).ext E305), (by rw [if_pos ⟨hz, kk⟩]; exact ⟨_, rfl, X305⟩)⟩ (by decide) (by decide)
theorem cEm (l : Launch) (Z : State) (a0 : Array Value) (hw : tHW Z a0) (ws : List Jvm.Cond) (x : Addr) (h0 : Heap) (n0 : Nat) (Z0 : n0 ≤ h0.size) (X_x : LS Z h0 x []) :
    Con l (⟨"java/lang/String", "isEmpty", "()Z"⟩ : MethodName) jdk_42_method_55_code 1 (some .boolean) ws ({ frames := 0, cells := 0, slots := 0, locals := 0 } : Room) Z #[(.ref x)] h0 (fun v h L => v = some (.int (1 : Int32)) ∧ L = [] ∧ h = h0) 0 0 := by
  refine enter (plainFor_of_name pn_0) ?_
  intro p e s m below meth c s₁ hnm hret hlk D0
  rw [ef_cEm m x]
  obtain ⟨t, kt, x1, x2, x3, x4, x5, x6⟩ := (id X_x)
  refine g_aloadN D0 1 d_jdk_42m55_0 rfl rfl rfl ?_
  refine g_getF D0 4 (hw _ w_26) Via.refl x3 d_jdk_42m55_1 rfl ?_
  intro T308 D308
  refine g_alen D308 5 x4 d_jdk_42m55_4 rfl ?_
  refine g_ifN D308 8 d_jdk_42m55_5 (by decide) rfl ?_
  refine g_iconst D308 9 (1 : Int32) d_jdk_42m55_8 rfl rfl ?_
  refine g_goto D308 13 d_jdk_42m55_9 (by decide) (by decide) ?_
  exact r_N D308 hret (by simp) hlk d_jdk_42m55_13 ⟨own_r1, rfl, rfl⟩ (by decide) (by decide)
theorem cX (l : Launch) (Z : State) (a0 : Array Value) (hw : tHW Z a0) (ws : List Jvm.Cond) (i0 i1_ : Int64) (sel zc : Int32) (fm : Value) (h0 : Heap) (n0 : Nat) (Z0 : n0 ≤ h0.size) (hEW : EW Z a0 consts_1) (OLD : Old Z n0 h0) (CS : tCS Z zc) (hzc : ¬ zc = 0) (SFm : tSF Z fm) (rfm : fm.isRef = true) :
    ConW l x code maxLocals ret ws room_1 Z consts_1 #[(.long i0), (.long i1_), (.int sel)] h0 (fun v h L => v = some (.int 1) ∧ Fr n0 L) 56 1344 := by
  refine enterW (plainFor_of_name pn_5) ?_
  intro p e s m below meth c s₁ hnm hret hlk D0
  rw [ef_cX m i0 i1_ sel]
  refine g_iload D0 2 at_0 rfl rfl ?_
  refine g_iconst D0 3 (3 : Int32) at_2 rfl rfl ?_
  refine g_iand D0 4 at_3 rfl ?_
  generalize hesh : (sel &&& (3 : Int32)) = sh
  refine g_istore D0 6 #[.val (.long i0), .second, .val (.long i1_), .second, .val (.int sel), .val (.int sh), .unset, .unset, .unset, .unset, .unset, .unset, .unset, .unset, .unset, .unset, .unset, .unset, .unset] at_4 rfl rfl ?_
  refine g_iload D0 8 at_6 rfl rfl ?_
  refine g_iconst D0 9 (2 : Int32) at_8 rfl rfl ?_
  refine g_iushr D0 10 at_9 rfl ?_
  refine g_iconst D0 11 (1 : Int32) at_10 rfl rfl ?_
  refine g_iand D0 12 at_11 rfl ?_
  generalize hemd1 : ((XT.ushr sel (2 : Int32)) &&& (1 : Int32)) = md1
  refine g_istore D0 14 #[.val (.long i0), .second, .val (.long i1_), .second, .val (.int sel), .val (.int sh), .val (.int md1), .unset, .unset, .unset, .unset, .unset, .unset, .unset, .unset, .unset, .unset, .unset, .unset] at_12 rfl rfl ?_
  refine g_iload D0 16 at_14 rfl rfl ?_
  refine g_iconst D0 17 (3 : Int32) at_16 rfl rfl ?_
  refine g_iushr D0 18 at_17 rfl ?_
  refine g_iconst D0 19 (3 : Int32) at_18 rfl rfl ?_
  refine g_iand D0 20 at_19 rfl ?_
  refine g_iconst D0 21 (3 : Int32) at_20 rfl rfl ?_
  refine g_irem D0 22 at_21 (by decide) rfl ?_
  generalize hemd2 : (((XT.ushr sel (3 : Int32)) &&& (3 : Int32)) % (3 : Int32)) = md2
  refine g_istore D0 24 #[.val (.long i0), .second, .val (.long i1_), .second, .val (.int sel), .val (.int sh), .val (.int md1), .val (.int md2), .unset, .unset, .unset, .unset, .unset, .unset, .unset, .unset, .unset, .unset, .unset] at_22 rfl rfl ?_
  refine g_iload D0 26 at_24 rfl rfl ?_
  refine g_iconst D0 27 (5 : Int32) at_26 rfl rfl ?_
  refine g_iushr D0 28 at_27 rfl ?_
  refine g_iconst D0 29 (3 : Int32) at_28 rfl rfl ?_
  refine g_iand D0 30 at_29 rfl ?_
  have hi1 := own_and3 (XT.ushr sel (5 : Int32))
  generalize hei1 : ((XT.ushr sel (5 : Int32)) &&& (3 : Int32)) = i1 at hi1 ⊢
  refine g_istore D0 32 #[.val (.long i0), .second, .val (.long i1_), .second, .val (.int sel), .val (.int sh), .val (.int md1), .val (.int md2), .val (.int i1), .unset, .unset, .unset, .unset, .unset, .unset, .unset, .unset, .unset, .unset] at_30 rfl rfl ?_
  refine g_iload D0 34 at_32 rfl rfl ?_
  refine g_bipush D0 36 (7 : Int32) at_34 rfl rfl ?_
  refine g_iushr D0 37 at_36 rfl ?_
  refine g_iconst D0 38 (3 : Int32) at_37 rfl rfl ?_
  refine g_iand D0 39 at_38 rfl ?_
  have hi2 := own_and3 (XT.ushr sel (7 : Int32))
  generalize hei2 : ((XT.ushr sel (7 : Int32)) &&& (3 : Int32)) = i2 at hi2 ⊢
  refine g_istore D0 41 #[.val (.long i0), .second, .val (.long i1_), .second, .val (.int sel), .val (.int sh), .val (.int md1), .val (.int md2), .val (.int i1), .val (.int i2), .unset, .unset, .unset, .unset, .unset, .unset, .unset, .unset, .unset] at_39 rfl rfl ?_
  refine g_iload D0 43 at_41 rfl rfl ?_
  refine g_bipush D0 45 (9 : Int32) at_43 rfl rfl ?_
  refine g_iushr D0 46 at_45 rfl ?_
  refine g_iconst D0 47 (3 : Int32) at_46 rfl rfl ?_
  refine g_iand D0 48 at_47 rfl ?_
  have hiq := own_and3 (XT.ushr sel (9 : Int32))
  generalize heiq : ((XT.ushr sel (9 : Int32)) &&& (3 : Int32)) = iq at hiq ⊢
  refine g_istore D0 50 #[.val (.long i0), .second, .val (.long i1_), .second, .val (.int sel), .val (.int sh), .val (.int md1), .val (.int md2), .val (.int i1), .val (.int i2), .val (.int iq), .unset, .unset, .unset, .unset, .unset, .unset, .unset, .unset] at_48 rfl rfl ?_
  refine g_iload D0 52 at_50 rfl rfl ?_
  refine g_bipush D0 54 (11 : Int32) at_52 rfl rfl ?_
  refine g_iushr D0 55 at_54 rfl ?_
  refine g_iconst D0 56 (1 : Int32) at_55 rfl rfl ?_
  refine g_iand D0 57 at_56 rfl ?_
  suffices K309 : ∀ eb : Int32, True → Go p e below (WG Z consts_1 s (fun v h L => v = some (.int 1) ∧ Fr n0 L) 56 1344) (s₁.setTop (mkF m 65 #[.val (.long i0), .second, .val (.long i1_), .second, .val (.int sel), .val (.int sh), .val (.int md1), .val (.int md2), .val (.int i1), .val (.int i2), .val (.int iq), .unset, .unset, .unset, .unset, .unset, .unset, .unset, .unset] [(.int eb)])) by
    by_cases hr310 : ((XT.ushr sel (11 : Int32)) &&& (1 : Int32)) = (0 : Int32)
    · refine g_ifY D0 64 at_57 (teq hr310).1 (by decide) (by decide) ?_
      refine g_iconst D0 65 (0 : Int32) at_64 rfl rfl ?_
      exact K309 _ trivial
    refine g_ifN D0 60 at_57 (feq hr310).1 rfl ?_
    refine g_iconst D0 61 (1 : Int32) at_60 rfl rfl ?_
    refine g_goto D0 65 at_61 (by decide) (by decide) ?_
    exact K309 _ trivial
  intro eb heb
  refine g_istore D0 67 #[.val (.long i0), .second, .val (.long i1_), .second, .val (.int sel), .val (.int sh), .val (.int md1), .val (.int md2), .val (.int i1), .val (.int i2), .val (.int iq), .val (.int eb), .unset, .unset, .unset, .unset, .unset, .unset, .unset] at_65 rfl rfl ?_
  refine g_iload D0 69 at_67 rfl rfl ?_
  refine g_callSp D0 72 (hw _ w_0) (hw _ w_1) (hw _ w_2) (hw _ w_3) (by decide) ((cLe l Z a0 hw [] iq h0 n0 Z0).back D0 0 (hw _ w_3) (hw _ w_2) (by decide) (by decide)) rfl [(.int iq)] rfl (lenOf pd_18 rfl) rfl (Nat.le_of_eq rfl) (by decide) (by decide) at_69 rfl ?_
  intro v311 T311 q311 D311
  subst q311
  show Go p e below _ (T311.setTop (mkF m 72 _ [(.int (own_let iq))]))
  refine g_callS D311 75 (hw _ w_4) (hw _ w_5) (hw _ w_6) (hw _ w_7) (by decide) ((cVal l Z a0 hw [] (own_let iq) zc h0 n0 Z0 OLD CS hzc (own_isl8 (own_letl iq)).1).back D311 0 (hw _ w_7) (hw _ w_6) (by decide) (by decide)) rfl [(.int (own_let iq))] rfl (lenOf pd_25 rfl) rfl (Nat.le_of_eq rfl) (by decide) (by decide) (fun _ _ _ q => by obtain ⟨_, _, _, E, _⟩ := q; exact D311.iv.ext E) at_72 rfl ?_
  intro v312 T312 h312 L312 q312 D312
  obtain ⟨ny, rfl, N312, E312, X312⟩ := q312
  have NF312 := Fr.app (Fr.nil n0) N312
  obtain ⟨nt, nk, y1, y2, y3, y4, y5, y6⟩ := (id X312)
  show Go p e below _ (T312.setTop (mkF m 75 _ [(.ref ny)]))
  refine g_astore D312 77 #[.val (.long i0), .second, .val (.long i1_), .second, .val (.int sel), .val (.int sh), .val (.int md1), .val (.int md2), .val (.int i1), .val (.int i2), .val (.int iq), .val (.int eb), .val (.ref ny), .unset, .unset, .unset, .unset, .unset, .unset] at_75 rfl rfl rfl ?_
  refine g_lloadN D312 78 at_77 rfl rfl ?_
  refine g_iconst D312 79 (0 : Int32) at_78 rfl rfl ?_
  refine g_callSp D312 82 (hw _ w_30) (hw _ w_31) (hw _ w_2) (hw _ w_32) (by decide) ((cCh l Z a0 hw [] _ _ h312 n0 (Nat.le_trans Z0 E312.1)).back D312 0 (hw _ w_32) (hw _ w_2) (by decide) (by decide)) rfl [(.long i0), (.int (0 : Int32))] rfl (lenOf pd_26 rfl) rfl (Nat.le_of_eq rfl) (by decide) (by decide) at_79 rfl ?_
  intro v313 T313 q313 D313
  obtain ⟨c0, rfl, bc0⟩ := q313
  show Go p e below _ (T313.setTop (mkF m 82 _ [(.int c0)]))
  refine g_istore D313 84 #[.val (.long i0), .second, .val (.long i1_), .second, .val (.int sel), .val (.int sh), .val (.int md1), .val (.int md2), .val (.int i1), .val (.int i2), .val (.int iq), .val (.int eb), .val (.ref ny), .val (.int c0), .unset, .unset, .unset, .unset, .unset] at_82 rfl rfl ?_
  suffices K314 : ∀ m1 : Int32, own_R (¬ c0 = (59 : Int32) ∧ ¬ own_ci (own_let i1) (own_let iq) = 0) m1 → Go p e below (WG Z consts_1 s (fun v h L => v = some (.int 1) ∧ Fr n0 L) 56 1344) (T313.setTop (mkF m 107 #[.val (.long i0), .second, .val (.long i1_), .second, .val (.int sel), .val (.int sh), .val (.int md1), .val (.int md2), .val (.int i1), .val (.int i2), .val (.int iq), .val (.int eb), .val (.ref ny), .val (.int c0), .unset, .unset, .unset, .unset, .unset] [(.int m1)])) by
    refine g_iload D313 86 at_84 rfl rfl ?_
    refine g_bipush D313 88 (59 : Int32) at_86 rfl rfl ?_
    by_cases hr315 : c0 = (59 : Int32)
    · refine g_icmpY D313 106 at_88 (teq hr315).1 (by decide) (by decide) ?_
      refine g_iconst D313 107 (0 : Int32) at_106 rfl rfl ?_
      exact K314 _ (Or.inr ⟨rfl, fun q => q.1 hr315⟩)
    refine g_icmpN D313 91 at_88 (feq hr315).1 rfl ?_
    refine g_iload D313 93 at_91 rfl rfl ?_
    refine g_iconst D313 94 (1 : Int32) at_93 rfl rfl ?_
    refine g_ishr D313 95 at_94 rfl ?_
    refine g_iload D313 97 at_95 rfl rfl ?_
    refine g_iconst D313 98 (1 : Int32) at_97 rfl rfl ?_
    refine g_ishr D313 99 at_98 rfl ?_
    by_cases hr316 : (i1 >>> ((1 : Int32) &&& 31)) = (iq >>> ((1 : Int32) &&& 31))
    · refine g_icmpN D313 102 at_99 (teq hr316).2 rfl ?_
      refine g_iconst D313 103 (1 : Int32) at_102 rfl rfl ?_
      refine g_goto D313 107 at_103 (by decide) (by decide) ?_
      exact K314 _ (Or.inl ⟨rfl, hr315, (own_lci hi1 hiq).mp hr316⟩)
    refine g_icmpY D313 106 at_99 (feq hr316).2 (by decide) (by decide) ?_
    refine g_iconst D313 107 (0 : Int32) at_106 rfl rfl ?_
    exact K314 _ (Or.inr ⟨rfl, fun q => hr316 ((own_lci hi1 hiq).mpr q.2)⟩)
  intro m1 hm1
  refine g_istore D313 109 #[.val (.long i0), .second, .val (.long i1_), .second, .val (.int sel), .val (.int sh), .val (.int md1), .val (.int md2), .val (.int i1), .val (.int i2), .val (.int iq), .val (.int eb), .val (.ref ny), .val (.int c0), .val (.int m1), .unset, .unset, .unset, .unset] at_107 rfl rfl ?_
  suffices K317 : ∀ m2 : Int32, own_R (¬ own_ci (own_let i2) (own_let iq) = 0) m2 → Go p e below (WG Z consts_1 s (fun v h L => v = some (.int 1) ∧ Fr n0 L) 56 1344) (T313.setTop (mkF m 125 #[.val (.long i0), .second, .val (.long i1_), .second, .val (.int sel), .val (.int sh), .val (.int md1), .val (.int md2), .val (.int i1), .val (.int i2), .val (.int iq), .val (.int eb), .val (.ref ny), .val (.int c0), .val (.int m1), .unset, .unset, .unset, .unset] [(.int m2)])) by
    refine g_iload D313 111 at_109 rfl rfl ?_
    refine g_iconst D313 112 (1 : Int32) at_111 rfl rfl ?_
    refine g_ishr D313 113 at_112 rfl ?_
    refine g_iload D313 115 at_113 rfl rfl ?_
    refine g_iconst D313 116 (1 : Int32) at_115 rfl rfl ?_
    refine g_ishr D313 117 at_116 rfl ?_
    by_cases hr318 : (i2 >>> ((1 : Int32) &&& 31)) = (iq >>> ((1 : Int32) &&& 31))
    · refine g_icmpN D313 120 at_117 (teq hr318).2 rfl ?_
      refine g_iconst D313 121 (1 : Int32) at_120 rfl rfl ?_
      refine g_goto D313 125 at_121 (by decide) (by decide) ?_
      exact K317 _ (Or.inl ⟨rfl, (own_lci hi2 hiq).mp hr318⟩)
    refine g_icmpY D313 124 at_117 (feq hr318).2 (by decide) (by decide) ?_
    refine g_iconst D313 125 (0 : Int32) at_124 rfl rfl ?_
    exact K317 _ (Or.inr ⟨rfl, fun q => hr318 ((own_lci hi2 hiq).mpr q)⟩)
  intro m2 hm2
  refine g_istore D313 127 #[.val (.long i0), .second, .val (.long i1_), .second, .val (.int sel), .val (.int sh), .val (.int md1), .val (.int md2), .val (.int i1), .val (.int i2), .val (.int iq), .val (.int eb), .val (.ref ny), .val (.int c0), .val (.int m1), .val (.int m2), .unset, .unset, .unset] at_125 rfl rfl ?_
  refine g_iload D313 129 at_127 rfl rfl ?_
  by_cases zs0 : sh = (0 : Int32)
  · refine g_ifN D313 132 at_129 (teq zs0).2 rfl ?_
    refine g_aconst D313 133 at_132 rfl ?_
    refine g_aload D313 135 at_133 rfl rfl rfl ?_
    refine g_callSp D313 138 (hw _ w_34) (hw _ w_35) (hw _ w_36) (hw _ w_37) (by decide) ((cP0 l Z a0 hw [] ny h312 n0 (Nat.le_trans Z0 E312.1)).back D313 0 (hw _ w_37) (hw _ w_36) (by decide) (by decide)) rfl [.null, (.ref ny)] rfl (lenOf pd_27 rfl) rfl (Nat.le_of_eq rfl) (by decide) (by decide) at_135 rfl ?_
    intro v319 T319 q319 D319
    subst q319
    show Go p e below _ (T319.setTop (mkF m 138 _ [.null]))
    refine g_nnN D319 141 at_138 rfl ?_
    refine g_iconst D319 142 (1 : Int32) at_141 rfl rfl ?_
    refine g_goto D319 146 at_142 (by decide) (by decide) ?_
    exact r_Nw D319 hEW hret (by simp) hlk at_146 ⟨own_r1, NF312⟩ (by decide) (by decide)
  refine g_ifY D313 147 at_129 (feq zs0).2 (by decide) (by decide) ?_
  refine g_iload D313 149 at_147 rfl rfl ?_
  refine g_iconst D313 150 (1 : Int32) at_149 rfl rfl ?_
  by_cases zs1 : sh = (1 : Int32)
  · refine g_icmpN D313 153 at_150 (teq zs1).2 rfl ?_
    refine g_iload D313 155 at_153 rfl rfl ?_
    by_cases ze : eb = (0 : Int32)
    · refine g_ifY D313 163 at_155 (teq ze).1 (by decide) (by decide) ?_
      refine g_lloadN D313 164 at_163 rfl rfl ?_
      refine g_iconst D313 165 (4 : Int32) at_164 rfl rfl ?_
      refine g_callSp D313 168 (hw _ w_30) (hw _ w_31) (hw _ w_2) (hw _ w_32) (by decide) ((cCh l Z a0 hw [] _ _ h312 n0 (Nat.le_trans Z0 E312.1)).back D313 0 (hw _ w_32) (hw _ w_2) (by decide) (by decide)) rfl [(.long i1_), (.int (4 : Int32))] rfl (lenOf pd_26 rfl) rfl (Nat.le_of_eq rfl) (by decide) (by decide) at_165 rfl ?_
      intro v321 T321 q321 D321
      obtain ⟨ch320, rfl, bch320⟩ := q321
      show Go p e below _ (T321.setTop (mkF m 168 _ [(.int ch320)]))
      refine g_istore D321 170 #[.val (.long i0), .second, .val (.long i1_), .second, .val (.int sel), .val (.int sh), .val (.int md1), .val (.int md2), .val (.int i1), .val (.int i2), .val (.int iq), .val (.int eb), .val (.ref ny), .val (.int c0), .val (.int m1), .val (.int m2), .val (.int ch320), .unset, .unset] at_168 rfl rfl ?_
      refine g_bipush D321 172 (6 : Int32) at_170 rfl rfl ?_
      refine g_newP D321 174 (aty := .char) (hw _ w_38) at_172 (by decide) (cap := 6) (by decide) (by decide) (by decide) (by decide) (fun _ E => D321.iv.ext E) rfl ?_
      intro T322 h322 a322 k322 g322 E322 V322 D322
      have V322' : Arv Z h322 a322 k322 .char (6 : Int32) [(.int (0 : Int32)), (.int (0 : Int32)), (.int (0 : Int32)), (.int (0 : Int32)), (.int (0 : Int32)), (.int (0 : Int32))] (.int (0 : Int32)) := V322.pad (pad_rep [] (.int (0 : Int32)) 6)
      refine g_dup D322 175 at_174 rfl rfl ?_
      refine g_iconst D322 176 (0 : Int32) at_175 rfl rfl ?_
      refine g_iload D322 178 at_176 rfl rfl ?_
      refine g_castore D322 179 V322' ⟨by decide, by decide⟩ 0 (by decide) (Nat.le_of_ble_eq_true rfl) (fun _ W => D322.iv.wr (Safe.arv D322.wm.alike V322' (by decide)) W) at_178 rfl ?_
      intro T323 h323 W323 V323 D323
      rw [nar_c bc0] at V323
      replace V323 : Arv Z h323 a322 k322 .char (6 : Int32) [(.int c0), (.int (0 : Int32)), (.int (0 : Int32)), (.int (0 : Int32)), (.int (0 : Int32)), (.int (0 : Int32))] (.int (0 : Int32)) := V323
      have N323 := Fr.snoc D323.st NF312 (Nat.le_trans (Nat.le_trans Z0 E312.1) (Nat.le_of_eq g322.symm))
      refine g_dup D323 180 at_179 rfl rfl ?_
      refine g_iconst D323 181 (1 : Int32) at_180 rfl rfl ?_
      refine g_bipush D323 183 (59 : Int32) at_181 rfl rfl ?_
      refine g_castore D323 184 V323 ⟨by decide, by decide⟩ 1 (by decide) (Nat.le_of_ble_eq_true rfl) (fun _ W => D323.iv.wr (Safe.arv D323.wm.alike V323 (by decide)) W) at_183 rfl ?_
      intro T324 h324 W324 V324 D324
      rw [nar_c (by decide)] at V324
      replace V324 : Arv Z h324 a322 k322 .char (6 : Int32) [(.int c0), (.int (59 : Int32)), (.int (0 : Int32)), (.int (0 : Int32)), (.int (0 : Int32)), (.int (0 : Int32))] (.int (0 : Int32)) := V324
      have N324 := Fr.snoc D324.st N323 (Nat.le_trans (Nat.le_trans Z0 E312.1) (Nat.le_of_eq g322.symm))
      refine g_dup D324 185 at_184 rfl rfl ?_
      refine g_iconst D324 186 (2 : Int32) at_185 rfl rfl ?_
      refine g_bipush D324 188 (32 : Int32) at_186 rfl rfl ?_
      refine g_castore D324 189 V324 ⟨by decide, by decide⟩ 2 (by decide) (Nat.le_of_ble_eq_true rfl) (fun _ W => D324.iv.wr (Safe.arv D324.wm.alike V324 (by decide)) W) at_188 rfl ?_
      intro T325 h325 W325 V325 D325
      rw [nar_c (by decide)] at V325
      replace V325 : Arv Z h325 a322 k322 .char (6 : Int32) [(.int c0), (.int (59 : Int32)), (.int (32 : Int32)), (.int (0 : Int32)), (.int (0 : Int32)), (.int (0 : Int32))] (.int (0 : Int32)) := V325
      have N325 := Fr.snoc D325.st N324 (Nat.le_trans (Nat.le_trans Z0 E312.1) (Nat.le_of_eq g322.symm))
      refine g_dup D325 190 at_189 rfl rfl ?_
      refine g_iconst D325 191 (3 : Int32) at_190 rfl rfl ?_
      refine g_iload D325 193 at_191 rfl rfl ?_
      have cz326 : n0 ≤ h325.size := (Nat.le_trans (Nat.le_trans (Nat.le_trans (Nat.le_trans (Nat.le_trans Z0 E312.1) E322.1) (Keep.of_wr W323).1) (Keep.of_wr W324).1) (Keep.of_wr W325).1)
      refine g_callSp D325 196 (hw _ w_0) (hw _ w_1) (hw _ w_2) (hw _ w_3) (by decide) ((cLe l Z a0 hw [] i1 h325 n0 cz326).back D325 3 (hw _ w_3) (hw _ w_2) (by decide) (by decide)) rfl [(.int i1)] rfl (lenOf pd_18 rfl) rfl (Nat.le_of_eq rfl) (by decide) (by decide) at_193 rfl ?_
      intro v327 T327 q327 D327
      subst q327
      show Go p e below _ (T327.setTop (mkF m 196 _ [(.int (own_let i1)), (.int (3 : Int32)), (.ref a322), (.ref a322)]))
      refine g_castore D327 197 V325 ⟨by decide, by decide⟩ 3 (by decide) (Nat.le_of_ble_eq_true rfl) (fun _ W => D327.iv.wr (Safe.arv D327.wm.alike V325 (by decide)) W) at_196 rfl ?_
      intro T328 h328 W328 V328 D328
      rw [nar_c (own_isl8 (own_letl i1)).1] at V328
      replace V328 : Arv Z h328 a322 k322 .char (6 : Int32) [(.int c0), (.int (59 : Int32)), (.int (32 : Int32)), (.int (own_let i1)), (.int (0 : Int32)), (.int (0 : Int32))] (.int (0 : Int32)) := V328
      have N328 := Fr.snoc D328.st N325 (Nat.le_trans (Nat.le_trans Z0 E312.1) (Nat.le_of_eq g322.symm))
      refine g_dup D328 198 at_197 rfl rfl ?_
      refine g_iconst D328 199 (4 : Int32) at_198 rfl rfl ?_
      refine g_bipush D328 201 (9 : Int32) at_199 rfl rfl ?_
      refine g_castore D328 202 V328 ⟨by decide, by decide⟩ 4 (by decide) (Nat.le_of_ble_eq_true rfl) (fun _ W => D328.iv.wr (Safe.arv D328.wm.alike V328 (by decide)) W) at_201 rfl ?_
      intro T329 h329 W329 V329 D329
      rw [nar_c (by decide)] at V329
      replace V329 : Arv Z h329 a322 k322 .char (6 : Int32) [(.int c0), (.int (59 : Int32)), (.int (32 : Int32)), (.int (own_let i1)), (.int (9 : Int32)), (.int (0 : Int32))] (.int (0 : Int32)) := V329
      have N329 := Fr.snoc D329.st N328 (Nat.le_trans (Nat.le_trans Z0 E312.1) (Nat.le_of_eq g322.symm))
      refine g_dup D329 203 at_202 rfl rfl ?_
      refine g_iconst D329 204 (5 : Int32) at_203 rfl rfl ?_
      refine g_iload D329 206 at_204 rfl rfl ?_
      refine g_castore D329 207 V329 ⟨by decide, by decide⟩ 5 (by decide) (Nat.le_of_ble_eq_true rfl) (fun _ W => D329.iv.wr (Safe.arv D329.wm.alike V329 (by decide)) W) at_206 rfl ?_
      intro T330 h330 W330 V330 D330
      rw [nar_c bch320] at V330
      replace V330 : Arv Z h330 a322 k322 .char (6 : Int32) [(.int c0), (.int (59 : Int32)), (.int (32 : Int32)), (.int (own_let i1)), (.int (9 : Int32)), (.int ch320)] (.int (0 : Int32)) := V330
      have N330 := Fr.snoc D330.st N329 (Nat.le_trans (Nat.le_trans Z0 E312.1) (Nat.le_of_eq g322.symm))
      refine g_astore D330 209 #[.val (.long i0), .second, .val (.long i1_), .second, .val (.int sel), .val (.int sh), .val (.int md1), .val (.int md2), .val (.int i1), .val (.int i2), .val (.int iq), .val (.int eb), .val (.ref ny), .val (.int c0), .val (.int m1), .val (.int m2), .val (.int ch320), .val (.ref a322), .unset] at_207 rfl rfl rfl ?_
      refine g_newO D330 212 (hw _ w_45) (hw _ w_14) (hw _ w_6) at_209 (by decide) (by decide) (fun _ E => D330.iv.ext E) rfl ?_
      intro T331 h331 a331 g331 E331 A331 N331 D331
      refine g_dup D331 213 at_212 rfl rfl ?_
      refine g_aload D331 215 at_213 rfl rfl rfl ?_
      have cz332 : n0 ≤ h331.size := (Nat.le_trans (Nat.le_trans (Nat.le_trans (Nat.le_trans cz326 (Keep.of_wr W328).1) (Keep.of_wr W329).1) (Keep.of_wr W330).1) E331.1)
      refine g_callN D331 218 rfl (hw _ w_46) (hw _ w_47) (hw _ w_48) (by decide) (StrChars.Road.backV (W := 1) D331.wm (fun d hd => hw d (wbv d hd)) (kI := 4) (hw _ w_14) (cs := [c0, (59 : Int32), (32 : Int32), (own_let i1), (9 : Int32), ch320]) (bs := ([c0, (59 : Int32), (32 : Int32), (own_let i1), (9 : Int32), ch320].map StrChars.lo8)) (n := 6) (n0 := n0) (Nat.le_trans (Nat.le_trans (Nat.le_trans (Nat.le_trans cz326 (Keep.of_wr W328).1) (Keep.of_wr W329).1) (Keep.of_wr W330).1) (Nat.le_of_eq g331.symm)) cz332 A331 (N331 (Or.inr (hw _ w_27)) (ty := (.array .byte)) (by decide)) (N331 (Or.inr (hw _ w_29)) (ty := .byte) (by decide)) (V330.ext E331) (CS.ext (((((((((OLD.ext E312).ext E322).wr W323 (Nat.le_trans (Nat.le_trans Z0 E312.1) (Nat.le_of_eq g322.symm))).wr W324 (Nat.le_trans (Nat.le_trans Z0 E312.1) (Nat.le_of_eq g322.symm))).wr W325 (Nat.le_trans (Nat.le_trans Z0 E312.1) (Nat.le_of_eq g322.symm))).wr W328 (Nat.le_trans (Nat.le_trans Z0 E312.1) (Nat.le_of_eq g322.symm))).wr W329 (Nat.le_trans (Nat.le_trans Z0 E312.1) (Nat.le_of_eq g322.symm))).wr W330 (Nat.le_trans (Nat.le_trans Z0 E312.1) (Nat.le_of_eq g322.symm))).ext E331).2) hzc rfl rfl (by decide) (by decide) (b8_cons bc0 (b8_cons (by decide) (b8_cons (by decide) (b8_cons (own_isl8 (own_letl i1)).1 (b8_cons (by decide) (b8_cons bch320 b8_nil)))))) rfl (by decide) (by decide)) rfl [(.ref a322)] rfl (lenOf pd_28 rfl) rfl (Nat.le_of_eq rfl) (by decide) (by decide) (fun _ _ _ q => D331.iv.keep (sfS (safe_null D331.wm.alike A331 (N331 (Or.inr (hw _ w_27)) (ty := (.array .byte)) (by decide))) sf0) q.2.2.1) at_215 rfl ?_
      intro v333 T333 h333 L333 q333 D333
      obtain ⟨rfl, N333, K333, A333, C333, t333, kb333, -, -, -, Vf333, Va333⟩ := q333
      have NF333 := Fr.app N330 N333
      have X333 : LS Z h333 a331 [c0, (59 : Int32), (32 : Int32), (own_let i1), (9 : Int32), ch320] := ⟨t333, kb333, A333, C333, Vf333, Va333, (b8_cons bc0 (b8_cons (by decide) (b8_cons (by decide) (b8_cons (own_isl8 (own_letl i1)).1 (b8_cons (by decide) (b8_cons bch320 b8_nil)))))), Nat.le_of_ble_eq_true rfl⟩
      show Go p e below _ (T333.setTop (mkF m 218 _ [(.ref a331)]))
      refine g_aload D333 220 at_218 rfl rfl rfl ?_
      have cf334 := ((((((((((OLD.ext E312).ext E322).wr W323 (Nat.le_trans (Nat.le_trans Z0 E312.1) (Nat.le_of_eq g322.symm))).wr W324 (Nat.le_trans (Nat.le_trans Z0 E312.1) (Nat.le_of_eq g322.symm))).wr W325 (Nat.le_trans (Nat.le_trans Z0 E312.1) (Nat.le_of_eq g322.symm))).wr W328 (Nat.le_trans (Nat.le_trans Z0 E312.1) (Nat.le_of_eq g322.symm))).wr W329 (Nat.le_trans (Nat.le_trans Z0 E312.1) (Nat.le_of_eq g322.symm))).wr W330 (Nat.le_trans (Nat.le_trans Z0 E312.1) (Nat.le_of_eq g322.symm))).ext E331).keep K333 (allS (Nat.le_trans (Nat.le_trans (Nat.le_trans (Nat.le_trans (Nat.le_trans (Nat.le_trans (Nat.le_trans (Nat.le_trans (Nat.le_trans Z0 E312.1) E322.1) (Keep.of_wr W323).1) (Keep.of_wr W324).1) (Keep.of_wr W325).1) (Keep.of_wr W328).1) (Keep.of_wr W329).1) (Keep.of_wr W330).1) (Nat.le_of_eq g331.symm)) all0))
      have cf335 := (((((((((y1.ext E322).wr W323).wr W324).wr W325).wr W328).wr W329).wr W330).ext E331).keep K333)
      have cf336 := (((((((((y2.ext E322).other W323 (Or.inl (Nat.ne_of_lt (Nat.lt_of_lt_of_le y1.lt (Nat.le_of_eq g322.symm))))).other W324 (Or.inl (Nat.ne_of_lt (Nat.lt_of_lt_of_le y1.lt (Nat.le_of_eq g322.symm))))).other W325 (Or.inl (Nat.ne_of_lt (Nat.lt_of_lt_of_le y1.lt (Nat.le_of_eq g322.symm))))).other W328 (Or.inl (Nat.ne_of_lt (Nat.lt_of_lt_of_le y1.lt (Nat.le_of_eq g322.symm))))).other W329 (Or.inl (Nat.ne_of_lt (Nat.lt_of_lt_of_le y1.lt (Nat.le_of_eq g322.symm))))).other W330 (Or.inl (Nat.ne_of_lt (Nat.lt_of_lt_of_le y1.lt (Nat.le_of_eq g322.symm))))).ext E331).keep K333 (ninS (Nat.ne_of_lt (Nat.lt_of_lt_of_le (Nat.lt_of_lt_of_le (Nat.lt_of_lt_of_le (Nat.lt_of_lt_of_le (Nat.lt_of_lt_of_le (Nat.lt_of_lt_of_le (Nat.lt_of_lt_of_le (Nat.lt_of_lt_of_le y1.lt E322.1) (Keep.of_wr W323).1) (Keep.of_wr W324).1) (Keep.of_wr W325).1) (Keep.of_wr W328).1) (Keep.of_wr W329).1) (Keep.of_wr W330).1) (Nat.le_of_eq g331.symm))) nin0))
      have cf337 := (((((((((y3.ext E322).other W323 (Or.inl (Nat.ne_of_lt (Nat.lt_of_lt_of_le y1.lt (Nat.le_of_eq g322.symm))))).other W324 (Or.inl (Nat.ne_of_lt (Nat.lt_of_lt_of_le y1.lt (Nat.le_of_eq g322.symm))))).other W325 (Or.inl (Nat.ne_of_lt (Nat.lt_of_lt_of_le y1.lt (Nat.le_of_eq g322.symm))))).other W328 (Or.inl (Nat.ne_of_lt (Nat.lt_of_lt_of_le y1.lt (Nat.le_of_eq g322.symm))))).other W329 (Or.inl (Nat.ne_of_lt (Nat.lt_of_lt_of_le y1.lt (Nat.le_of_eq g322.symm))))).other W330 (Or.inl (Nat.ne_of_lt (Nat.lt_of_lt_of_le y1.lt (Nat.le_of_eq g322.symm))))).ext E331).keep K333 (ninS (Nat.ne_of_lt (Nat.lt_of_lt_of_le (Nat.lt_of_lt_of_le (Nat.lt_of_lt_of_le (Nat.lt_of_lt_of_le (Nat.lt_of_lt_of_le (Nat.lt_of_lt_of_le (Nat.lt_of_lt_of_le (Nat.lt_of_lt_of_le y1.lt E322.1) (Keep.of_wr W323).1) (Keep.of_wr W324).1) (Keep.of_wr W325).1) (Keep.of_wr W328).1) (Keep.of_wr W329).1) (Keep.of_wr W330).1) (Nat.le_of_eq g331.symm))) nin0))
      have cf338 := (((((((((y4.ext E322).other W323 (Nat.ne_of_lt (Nat.lt_of_lt_of_le y4.lt (Nat.le_of_eq g322.symm)))).other W324 (Nat.ne_of_lt (Nat.lt_of_lt_of_le y4.lt (Nat.le_of_eq g322.symm)))).other W325 (Nat.ne_of_lt (Nat.lt_of_lt_of_le y4.lt (Nat.le_of_eq g322.symm)))).other W328 (Nat.ne_of_lt (Nat.lt_of_lt_of_le y4.lt (Nat.le_of_eq g322.symm)))).other W329 (Nat.ne_of_lt (Nat.lt_of_lt_of_le y4.lt (Nat.le_of_eq g322.symm)))).other W330 (Nat.ne_of_lt (Nat.lt_of_lt_of_le y4.lt (Nat.le_of_eq g322.symm)))).ext E331).keep K333 (ninS (Nat.ne_of_lt (Nat.lt_of_lt_of_le (Nat.lt_of_lt_of_le (Nat.lt_of_lt_of_le (Nat.lt_of_lt_of_le (Nat.lt_of_lt_of_le (Nat.lt_of_lt_of_le (Nat.lt_of_lt_of_le (Nat.lt_of_lt_of_le y4.lt E322.1) (Keep.of_wr W323).1) (Keep.of_wr W324).1) (Keep.of_wr W325).1) (Keep.of_wr W328).1) (Keep.of_wr W329).1) (Keep.of_wr W330).1) (Nat.le_of_eq g331.symm))) nin0))
      refine g_callSW D333 223 hEW (hw _ w_34) (hw _ w_35) (hw _ w_36) (hw _ w_37) (by decide) (cP1 l Z a0 hw [] a331 ny c0 (own_let i1) ch320 (own_let iq) zc fm h333 n0 (Nat.le_trans cz332 K333.1) hEW cf334 CS hzc SFm rfm X333 ⟨nt, nk, cf335, cf336, cf337, cf338, y5, y6⟩ (own_letl i1) (own_letl iq)) rfl [(.ref a331), (.ref ny)] rfl (lenOf pd_27 rfl) rfl 0 (Nat.le_of_eq rfl) (by decide) (by decide) (by decide) (by decide) at_220 rfl ?_
      intro v339 s339 T339 h339 L339 q339 SF339 D339
      obtain ⟨w339, rfl, N339, E339, R339⟩ := q339
      have NF339 := Fr.app NF333 N339
      by_cases h61 : ch320 = (61 : Int32)
      · rcases hm1 with ⟨rfl, Phm1⟩ | ⟨rfl, Phm1⟩
        · rw [if_pos ⟨h61, Phm1⟩] at R339
          obtain ⟨y339, rfl, X339⟩ := R339
          show Go p e below _ (T339.setTop (mkF m 223 _ [(.ref y339)]))
          refine g_astore D339 225 #[.val (.long i0), .second, .val (.long i1_), .second, .val (.int sel), .val (.int sh), .val (.int md1), .val (.int md2), .val (.int i1), .val (.int i2), .val (.int iq), .val (.int eb), .val (.ref ny), .val (.int c0), .val (.int (1 : Int32)), .val (.int m2), .val (.int ch320), .val (.ref a322), .val (.ref y339)] at_223 rfl rfl rfl ?_
          refine g_iload D339 227 at_225 rfl rfl ?_
          refine g_bipush D339 229 (61 : Int32) at_227 rfl rfl ?_
          refine g_icmpN D339 232 at_229 (teq h61).2 rfl ?_
          refine g_iload D339 234 at_232 rfl rfl ?_
          refine g_ifN D339 237 at_234 (by decide) rfl ?_
          refine g_aload D339 239 at_237 rfl rfl rfl ?_
          refine g_nullN D339 242 at_239 rfl ?_
          refine g_aload D339 244 at_242 rfl rfl rfl ?_
          refine g_callVp D339 247 (hw _ w_196) (hw _ w_197) (notFace_of_selects (args := #[]) (mvT D339.wm (hw _ w_199))) (hw _ w_199) (hw _ w_198) (by decide) ((cEm l Z a0 hw [] y339 h339 n0 (Nat.le_trans (Nat.le_trans cz332 K333.1) E339.1) X339).back D339 0 (hw _ w_200) (hw _ w_6) (by decide) (by decide)) (X339).exa rfl [] rfl (lenOf pd_3 rfl) rfl (Nat.le_of_eq rfl) (by decide) (by decide) at_244 rfl ?_
          intro v340 T340 q340 D340
          subst q340
          show Go p e below _ (T340.setTop (mkF m 247 _ [(.int (1 : Int32))]))
          refine g_ifN D340 250 at_247 (by decide) rfl ?_
          refine g_iconst D340 251 (1 : Int32) at_250 rfl rfl ?_
          refine g_goto D340 255 at_251 (by decide) (by decide) ?_
          exact r_Nw D340 hEW hret (by simp) hlk at_255 ⟨own_r1, NF339⟩ (by decide) (by decide)
        · rw [if_neg (fun g => Phm1 g.2)] at R339
          obtain rfl := R339
          show Go p e below _ (T339.setTop (mkF m 223 _ [.null]))
          refine g_astore D339 225 #[.val (.long i0), .second, .val (.long i1_), .second, .val (.int sel), .val (.int sh), .val (.int md1), .val (.int md2), .val (.int i1), .val (.int i2), .val (.int iq), .val (.int eb), .val (.ref ny), .val (.int c0), .val (.int (0 : Int32)), .val (.int m2), .val (.int ch320), .val (.ref a322), .val .null] at_223 rfl rfl rfl ?_
          refine g_iload D339 227 at_225 rfl rfl ?_
          refine g_bipush D339 229 (61 : Int32) at_227 rfl rfl ?_
          refine g_icmpN D339 232 at_229 (teq h61).2 rfl ?_
          refine g_iload D339 234 at_232 rfl rfl ?_
          refine g_ifY D339 256 at_234 (by decide) (by decide) (by decide) ?_
          refine g_aload D339 258 at_256 rfl rfl rfl ?_
          refine g_nnN D339 261 at_258 rfl ?_
          refine g_iconst D339 262 (1 : Int32) at_261 rfl rfl ?_
          refine g_goto D339 266 at_262 (by decide) (by decide) ?_
          exact r_Nw D339 hEW hret (by simp) hlk at_266 ⟨own_r1, NF339⟩ (by decide) (by decide)
      rw [if_neg (fun g => h61 g.1)] at R339
      obtain rfl := R339
      show Go p e below _ (T339.setTop (mkF m 223 _ [.null]))
      refine g_astore D339 225 #[.val (.long i0), .second, .val (.long i1_), .second, .val (.int sel), .val (.int sh), .val (.int md1), .val (.int md2), .val (.int i1), .val (.int i2), .val (.int iq), .val (.int eb), .val (.ref ny), .val (.int c0), .val (.int m1), .val (.int m2), .val (.int ch320), .val (.ref a322), .val .null] at_223 rfl rfl rfl ?_
      refine g_iload D339 227 at_225 rfl rfl ?_
      refine g_bipush D339 229 (61 : Int32) at_227 rfl rfl ?_
      refine g_icmpY D339 256 at_229 (feq h61).2 (by decide) (by decide) ?_
      refine g_aload D339 258 at_256 rfl rfl rfl ?_
      refine g_nnN D339 261 at_258 rfl ?_
      refine g_iconst D339 262 (1 : Int32) at_261 rfl rfl ?_
      refine g_goto D339 266 at_262 (by decide) (by decide) ?_
      exact r_Nw D339 hEW hret (by simp) hlk at_266 ⟨own_r1, NF339⟩ (by decide) (by decide)
    refine g_ifN D313 158 at_155 (feq ze).1 rfl ?_
    refine g_bipush D313 160 (61 : Int32) at_158 rfl rfl ?_
    refine g_goto D313 168 at_160 (by decide) (by decide) ?_
    refine g_istore D313 170 #[.val (.long i0), .second, .val (.long i1_), .second, .val (.int sel), .val (.int sh), .val (.int md1), .val (.int md2), .val (.int i1), .val (.int i2), .val (.int iq), .val (.int eb), .val (.ref ny), .val (.int c0), .val (.int m1), .val (.int m2), .val (.int (61 : Int32)), .unset, .unset] at_168 rfl rfl ?_
    refine g_bipush D313 172 (6 : Int32) at_170 rfl rfl ?_
    refine g_newP D313 174 (aty := .char) (hw _ w_38) at_172 (by decide) (cap := 6) (by decide) (by decide) (by decide) (by decide) (fun _ E => D313.iv.ext E) rfl ?_
    intro T341 h341 a341 k341 g341 E341 V341 D341
    have V341' : Arv Z h341 a341 k341 .char (6 : Int32) [(.int (0 : Int32)), (.int (0 : Int32)), (.int (0 : Int32)), (.int (0 : Int32)), (.int (0 : Int32)), (.int (0 : Int32))] (.int (0 : Int32)) := V341.pad (pad_rep [] (.int (0 : Int32)) 6)
    refine g_dup D341 175 at_174 rfl rfl ?_
    refine g_iconst D341 176 (0 : Int32) at_175 rfl rfl ?_
    refine g_iload D341 178 at_176 rfl rfl ?_
    refine g_castore D341 179 V341' ⟨by decide, by decide⟩ 0 (by decide) (Nat.le_of_ble_eq_true rfl) (fun _ W => D341.iv.wr (Safe.arv D341.wm.alike V341' (by decide)) W) at_178 rfl ?_
    intro T342 h342 W342 V342 D342
    rw [nar_c bc0] at V342
    replace V342 : Arv Z h342 a341 k341 .char (6 : Int32) [(.int c0), (.int (0 : Int32)), (.int (0 : Int32)), (.int (0 : Int32)), (.int (0 : Int32)), (.int (0 : Int32))] (.int (0 : Int32)) := V342
    have N342 := Fr.snoc D342.st NF312 (Nat.le_trans (Nat.le_trans Z0 E312.1) (Nat.le_of_eq g341.symm))
    refine g_dup D342 180 at_179 rfl rfl ?_
    refine g_iconst D342 181 (1 : Int32) at_180 rfl rfl ?_
    refine g_bipush D342 183 (59 : Int32) at_181 rfl rfl ?_
    refine g_castore D342 184 V342 ⟨by decide, by decide⟩ 1 (by decide) (Nat.le_of_ble_eq_true rfl) (fun _ W => D342.iv.wr (Safe.arv D342.wm.alike V342 (by decide)) W) at_183 rfl ?_
    intro T343 h343 W343 V343 D343
    rw [nar_c (by decide)] at V343
    replace V343 : Arv Z h343 a341 k341 .char (6 : Int32) [(.int c0), (.int (59 : Int32)), (.int (0 : Int32)), (.int (0 : Int32)), (.int (0 : Int32)), (.int (0 : Int32))] (.int (0 : Int32)) := V343
    have N343 := Fr.snoc D343.st N342 (Nat.le_trans (Nat.le_trans Z0 E312.1) (Nat.le_of_eq g341.symm))
    refine g_dup D343 185 at_184 rfl rfl ?_
    refine g_iconst D343 186 (2 : Int32) at_185 rfl rfl ?_
    refine g_bipush D343 188 (32 : Int32) at_186 rfl rfl ?_
    refine g_castore D343 189 V343 ⟨by decide, by decide⟩ 2 (by decide) (Nat.le_of_ble_eq_true rfl) (fun _ W => D343.iv.wr (Safe.arv D343.wm.alike V343 (by decide)) W) at_188 rfl ?_
    intro T344 h344 W344 V344 D344
    rw [nar_c (by decide)] at V344
    replace V344 : Arv Z h344 a341 k341 .char (6 : Int32) [(.int c0), (.int (59 : Int32)), (.int (32 : Int32)), (.int (0 : Int32)), (.int (0 : Int32)), (.int (0 : Int32))] (.int (0 : Int32)) := V344
    have N344 := Fr.snoc D344.st N343 (Nat.le_trans (Nat.le_trans Z0 E312.1) (Nat.le_of_eq g341.symm))
    refine g_dup D344 190 at_189 rfl rfl ?_
    refine g_iconst D344 191 (3 : Int32) at_190 rfl rfl ?_
    refine g_iload D344 193 at_191 rfl rfl ?_
    have cz345 : n0 ≤ h344.size := (Nat.le_trans (Nat.le_trans (Nat.le_trans (Nat.le_trans (Nat.le_trans Z0 E312.1) E341.1) (Keep.of_wr W342).1) (Keep.of_wr W343).1) (Keep.of_wr W344).1)
    refine g_callSp D344 196 (hw _ w_0) (hw _ w_1) (hw _ w_2) (hw _ w_3) (by decide) ((cLe l Z a0 hw [] i1 h344 n0 cz345).back D344 3 (hw _ w_3) (hw _ w_2) (by decide) (by decide)) rfl [(.int i1)] rfl (lenOf pd_18 rfl) rfl (Nat.le_of_eq rfl) (by decide) (by decide) at_193 rfl ?_
    intro v346 T346 q346 D346
    subst q346
    show Go p e below _ (T346.setTop (mkF m 196 _ [(.int (own_let i1)), (.int (3 : Int32)), (.ref a341), (.ref a341)]))
    refine g_castore D346 197 V344 ⟨by decide, by decide⟩ 3 (by decide) (Nat.le_of_ble_eq_true rfl) (fun _ W => D346.iv.wr (Safe.arv D346.wm.alike V344 (by decide)) W) at_196 rfl ?_
    intro T347 h347 W347 V347 D347
    rw [nar_c (own_isl8 (own_letl i1)).1] at V347
    replace V347 : Arv Z h347 a341 k341 .char (6 : Int32) [(.int c0), (.int (59 : Int32)), (.int (32 : Int32)), (.int (own_let i1)), (.int (0 : Int32)), (.int (0 : Int32))] (.int (0 : Int32)) := V347
    have N347 := Fr.snoc D347.st N344 (Nat.le_trans (Nat.le_trans Z0 E312.1) (Nat.le_of_eq g341.symm))
    refine g_dup D347 198 at_197 rfl rfl ?_
    refine g_iconst D347 199 (4 : Int32) at_198 rfl rfl ?_
    refine g_bipush D347 201 (9 : Int32) at_199 rfl rfl ?_
    refine g_castore D347 202 V347 ⟨by decide, by decide⟩ 4 (by decide) (Nat.le_of_ble_eq_true rfl) (fun _ W => D347.iv.wr (Safe.arv D347.wm.alike V347 (by decide)) W) at_201 rfl ?_
    intro T348 h348 W348 V348 D348
    rw [nar_c (by decide)] at V348
    replace V348 : Arv Z h348 a341 k341 .char (6 : Int32) [(.int c0), (.int (59 : Int32)), (.int (32 : Int32)), (.int (own_let i1)), (.int (9 : Int32)), (.int (0 : Int32))] (.int (0 : Int32)) := V348
    have N348 := Fr.snoc D348.st N347 (Nat.le_trans (Nat.le_trans Z0 E312.1) (Nat.le_of_eq g341.symm))
    refine g_dup D348 203 at_202 rfl rfl ?_
    refine g_iconst D348 204 (5 : Int32) at_203 rfl rfl ?_
    refine g_iload D348 206 at_204 rfl rfl ?_
    refine g_castore D348 207 V348 ⟨by decide, by decide⟩ 5 (by decide) (Nat.le_of_ble_eq_true rfl) (fun _ W => D348.iv.wr (Safe.arv D348.wm.alike V348 (by decide)) W) at_206 rfl ?_
    intro T349 h349 W349 V349 D349
    rw [nar_c (by decide)] at V349
    replace V349 : Arv Z h349 a341 k341 .char (6 : Int32) [(.int c0), (.int (59 : Int32)), (.int (32 : Int32)), (.int (own_let i1)), (.int (9 : Int32)), (.int (61 : Int32))] (.int (0 : Int32)) := V349
    have N349 := Fr.snoc D349.st N348 (Nat.le_trans (Nat.le_trans Z0 E312.1) (Nat.le_of_eq g341.symm))
    refine g_astore D349 209 #[.val (.long i0), .second, .val (.long i1_), .second, .val (.int sel), .val (.int sh), .val (.int md1), .val (.int md2), .val (.int i1), .val (.int i2), .val (.int iq), .val (.int eb), .val (.ref ny), .val (.int c0), .val (.int m1), .val (.int m2), .val (.int (61 : Int32)), .val (.ref a341), .unset] at_207 rfl rfl rfl ?_
    refine g_newO D349 212 (hw _ w_45) (hw _ w_14) (hw _ w_6) at_209 (by decide) (by decide) (fun _ E => D349.iv.ext E) rfl ?_
    intro T350 h350 a350 g350 E350 A350 N350 D350
    refine g_dup D350 213 at_212 rfl rfl ?_
    refine g_aload D350 215 at_213 rfl rfl rfl ?_
    have cz351 : n0 ≤ h350.size := (Nat.le_trans (Nat.le_trans (Nat.le_trans (Nat.le_trans cz345 (Keep.of_wr W347).1) (Keep.of_wr W348).1) (Keep.of_wr W349).1) E350.1)
    refine g_callN D350 218 rfl (hw _ w_46) (hw _ w_47) (hw _ w_48) (by decide) (StrChars.Road.backV (W := 1) D350.wm (fun d hd => hw d (wbv d hd)) (kI := 4) (hw _ w_14) (cs := [c0, (59 : Int32), (32 : Int32), (own_let i1), (9 : Int32), (61 : Int32)]) (bs := ([c0, (59 : Int32), (32 : Int32), (own_let i1), (9 : Int32), (61 : Int32)].map StrChars.lo8)) (n := 6) (n0 := n0) (Nat.le_trans (Nat.le_trans (Nat.le_trans (Nat.le_trans cz345 (Keep.of_wr W347).1) (Keep.of_wr W348).1) (Keep.of_wr W349).1) (Nat.le_of_eq g350.symm)) cz351 A350 (N350 (Or.inr (hw _ w_27)) (ty := (.array .byte)) (by decide)) (N350 (Or.inr (hw _ w_29)) (ty := .byte) (by decide)) (V349.ext E350) (CS.ext (((((((((OLD.ext E312).ext E341).wr W342 (Nat.le_trans (Nat.le_trans Z0 E312.1) (Nat.le_of_eq g341.symm))).wr W343 (Nat.le_trans (Nat.le_trans Z0 E312.1) (Nat.le_of_eq g341.symm))).wr W344 (Nat.le_trans (Nat.le_trans Z0 E312.1) (Nat.le_of_eq g341.symm))).wr W347 (Nat.le_trans (Nat.le_trans Z0 E312.1) (Nat.le_of_eq g341.symm))).wr W348 (Nat.le_trans (Nat.le_trans Z0 E312.1) (Nat.le_of_eq g341.symm))).wr W349 (Nat.le_trans (Nat.le_trans Z0 E312.1) (Nat.le_of_eq g341.symm))).ext E350).2) hzc rfl rfl (by decide) (by decide) (b8_cons bc0 (b8_cons (by decide) (b8_cons (by decide) (b8_cons (own_isl8 (own_letl i1)).1 (b8_cons (by decide) (b8_cons (by decide) b8_nil)))))) rfl (by decide) (by decide)) rfl [(.ref a341)] rfl (lenOf pd_28 rfl) rfl (Nat.le_of_eq rfl) (by decide) (by decide) (fun _ _ _ q => D350.iv.keep (sfS (safe_null D350.wm.alike A350 (N350 (Or.inr (hw _ w_27)) (ty := (.array .byte)) (by decide))) sf0) q.2.2.1) at_215 rfl ?_
    intro v352 T352 h352 L352 q352 D352
    obtain ⟨rfl, N352, K352, A352, C352, t352, kb352, -, -, -, Vf352, Va352⟩ := q352
    have NF352 := Fr.app N349 N352
    have X352 : LS Z h352 a350 [c0, (59 : Int32), (32 : Int32), (own_let i1), (9 : Int32), (61 : Int32)] := ⟨t352, kb352, A352, C352, Vf352, Va352, (b8_cons bc0 (b8_cons (by decide) (b8_cons (by decide) (b8_cons (own_isl8 (own_letl i1)).1 (b8_cons (by decide) (b8_cons (by decide) b8_nil)))))), Nat.le_of_ble_eq_true rfl⟩
    show Go p e below _ (T352.setTop (mkF m 218 _ [(.ref a350)]))
    refine g_aload D352 220 at_218 rfl rfl rfl ?_
    have cf353 := ((((((((((OLD.ext E312).ext E341).wr W342 (Nat.le_trans (Nat.le_trans Z0 E312.1) (Nat.le_of_eq g341.symm))).wr W343 (Nat.le_trans (Nat.le_trans Z0 E312.1) (Nat.le_of_eq g341.symm))).wr W344 (Nat.le_trans (Nat.le_trans Z0 E312.1) (Nat.le_of_eq g341.symm))).wr W347 (Nat.le_trans (Nat.le_trans Z0 E312.1) (Nat.le_of_eq g341.symm))).wr W348 (Nat.le_trans (Nat.le_trans Z0 E312.1) (Nat.le_of_eq g341.symm))).wr W349 (Nat.le_trans (Nat.le_trans Z0 E312.1) (Nat.le_of_eq g341.symm))).ext E350).keep K352 (allS (Nat.le_trans (Nat.le_trans (Nat.le_trans (Nat.le_trans (Nat.le_trans (Nat.le_trans (Nat.le_trans (Nat.le_trans (Nat.le_trans Z0 E312.1) E341.1) (Keep.of_wr W342).1) (Keep.of_wr W343).1) (Keep.of_wr W344).1) (Keep.of_wr W347).1) (Keep.of_wr W348).1) (Keep.of_wr W349).1) (Nat.le_of_eq g350.symm)) all0))
    have cf354 := (((((((((y1.ext E341).wr W342).wr W343).wr W344).wr W347).wr W348).wr W349).ext E350).keep K352)
    have cf355 := (((((((((y2.ext E341).other W342 (Or.inl (Nat.ne_of_lt (Nat.lt_of_lt_of_le y1.lt (Nat.le_of_eq g341.symm))))).other W343 (Or.inl (Nat.ne_of_lt (Nat.lt_of_lt_of_le y1.lt (Nat.le_of_eq g341.symm))))).other W344 (Or.inl (Nat.ne_of_lt (Nat.lt_of_lt_of_le y1.lt (Nat.le_of_eq g341.symm))))).other W347 (Or.inl (Nat.ne_of_lt (Nat.lt_of_lt_of_le y1.lt (Nat.le_of_eq g341.symm))))).other W348 (Or.inl (Nat.ne_of_lt (Nat.lt_of_lt_of_le y1.lt (Nat.le_of_eq g341.symm))))).other W349 (Or.inl (Nat.ne_of_lt (Nat.lt_of_lt_of_le y1.lt (Nat.le_of_eq g341.symm))))).ext E350).keep K352 (ninS (Nat.ne_of_lt (Nat.lt_of_lt_of_le (Nat.lt_of_lt_of_le (Nat.lt_of_lt_of_le (Nat.lt_of_lt_of_le (Nat.lt_of_lt_of_le (Nat.lt_of_lt_of_le (Nat.lt_of_lt_of_le (Nat.lt_of_lt_of_le y1.lt E341.1) (Keep.of_wr W342).1) (Keep.of_wr W343).1) (Keep.of_wr W344).1) (Keep.of_wr W347).1) (Keep.of_wr W348).1) (Keep.of_wr W349).1) (Nat.le_of_eq g350.symm))) nin0))
    have cf356 := (((((((((y3.ext E341).other W342 (Or.inl (Nat.ne_of_lt (Nat.lt_of_lt_of_le y1.lt (Nat.le_of_eq g341.symm))))).other W343 (Or.inl (Nat.ne_of_lt (Nat.lt_of_lt_of_le y1.lt (Nat.le_of_eq g341.symm))))).other W344 (Or.inl (Nat.ne_of_lt (Nat.lt_of_lt_of_le y1.lt (Nat.le_of_eq g341.symm))))).other W347 (Or.inl (Nat.ne_of_lt (Nat.lt_of_lt_of_le y1.lt (Nat.le_of_eq g341.symm))))).other W348 (Or.inl (Nat.ne_of_lt (Nat.lt_of_lt_of_le y1.lt (Nat.le_of_eq g341.symm))))).other W349 (Or.inl (Nat.ne_of_lt (Nat.lt_of_lt_of_le y1.lt (Nat.le_of_eq g341.symm))))).ext E350).keep K352 (ninS (Nat.ne_of_lt (Nat.lt_of_lt_of_le (Nat.lt_of_lt_of_le (Nat.lt_of_lt_of_le (Nat.lt_of_lt_of_le (Nat.lt_of_lt_of_le (Nat.lt_of_lt_of_le (Nat.lt_of_lt_of_le (Nat.lt_of_lt_of_le y1.lt E341.1) (Keep.of_wr W342).1) (Keep.of_wr W343).1) (Keep.of_wr W344).1) (Keep.of_wr W347).1) (Keep.of_wr W348).1) (Keep.of_wr W349).1) (Nat.le_of_eq g350.symm))) nin0))
    have cf357 := (((((((((y4.ext E341).other W342 (Nat.ne_of_lt (Nat.lt_of_lt_of_le y4.lt (Nat.le_of_eq g341.symm)))).other W343 (Nat.ne_of_lt (Nat.lt_of_lt_of_le y4.lt (Nat.le_of_eq g341.symm)))).other W344 (Nat.ne_of_lt (Nat.lt_of_lt_of_le y4.lt (Nat.le_of_eq g341.symm)))).other W347 (Nat.ne_of_lt (Nat.lt_of_lt_of_le y4.lt (Nat.le_of_eq g341.symm)))).other W348 (Nat.ne_of_lt (Nat.lt_of_lt_of_le y4.lt (Nat.le_of_eq g341.symm)))).other W349 (Nat.ne_of_lt (Nat.lt_of_lt_of_le y4.lt (Nat.le_of_eq g341.symm)))).ext E350).keep K352 (ninS (Nat.ne_of_lt (Nat.lt_of_lt_of_le (Nat.lt_of_lt_of_le (Nat.lt_of_lt_of_le (Nat.lt_of_lt_of_le (Nat.lt_of_lt_of_le (Nat.lt_of_lt_of_le (Nat.lt_of_lt_of_le (Nat.lt_of_lt_of_le y4.lt E341.1) (Keep.of_wr W342).1) (Keep.of_wr W343).1) (Keep.of_wr W344).1) (Keep.of_wr W347).1) (Keep.of_wr W348).1) (Keep.of_wr W349).1) (Nat.le_of_eq g350.symm))) nin0))
    refine g_callSW D352 223 hEW (hw _ w_34) (hw _ w_35) (hw _ w_36) (hw _ w_37) (by decide) (cP1 l Z a0 hw [] a350 ny c0 (own_let i1) (61 : Int32) (own_let iq) zc fm h352 n0 (Nat.le_trans cz351 K352.1) hEW cf353 CS hzc SFm rfm X352 ⟨nt, nk, cf354, cf355, cf356, cf357, y5, y6⟩ (own_letl i1) (own_letl iq)) rfl [(.ref a350), (.ref ny)] rfl (lenOf pd_27 rfl) rfl 0 (Nat.le_of_eq rfl) (by decide) (by decide) (by decide) (by decide) at_220 rfl ?_
    intro v358 s358 T358 h358 L358 q358 SF358 D358
    obtain ⟨w358, rfl, N358, E358, R358⟩ := q358
    have NF358 := Fr.app NF352 N358
    rcases hm1 with ⟨rfl, Phm1⟩ | ⟨rfl, Phm1⟩
    · rw [if_pos ⟨rfl, Phm1⟩] at R358
      obtain ⟨y358, rfl, X358⟩ := R358
      show Go p e below _ (T358.setTop (mkF m 223 _ [(.ref y358)]))
      refine g_astore D358 225 #[.val (.long i0), .second, .val (.long i1_), .second, .val (.int sel), .val (.int sh), .val (.int md1), .val (.int md2), .val (.int i1), .val (.int i2), .val (.int iq), .val (.int eb), .val (.ref ny), .val (.int c0), .val (.int (1 : Int32)), .val (.int m2), .val (.int (61 : Int32)), .val (.ref a341), .val (.ref y358)] at_223 rfl rfl rfl ?_
      refine g_iload D358 227 at_225 rfl rfl ?_
      refine g_bipush D358 229 (61 : Int32) at_227 rfl rfl ?_
      refine g_icmpN D358 232 at_229 (by decide) rfl ?_
      refine g_iload D358 234 at_232 rfl rfl ?_
      refine g_ifN D358 237 at_234 (by decide) rfl ?_
      refine g_aload D358 239 at_237 rfl rfl rfl ?_
      refine g_nullN D358 242 at_239 rfl ?_
      refine g_aload D358 244 at_242 rfl rfl rfl ?_
      refine g_callVp D358 247 (hw _ w_196) (hw _ w_197) (notFace_of_selects (args := #[]) (mvT D358.wm (hw _ w_199))) (hw _ w_199) (hw _ w_198) (by decide) ((cEm l Z a0 hw [] y358 h358 n0 (Nat.le_trans (Nat.le_trans cz351 K352.1) E358.1) X358).back D358 0 (hw _ w_200) (hw _ w_6) (by decide) (by decide)) (X358).exa rfl [] rfl (lenOf pd_3 rfl) rfl (Nat.le_of_eq rfl) (by decide) (by decide) at_244 rfl ?_
      intro v359 T359 q359 D359
      subst q359
      show Go p e below _ (T359.setTop (mkF m 247 _ [(.int (1 : Int32))]))
      refine g_ifN D359 250 at_247 (by decide) rfl ?_
      refine g_iconst D359 251 (1 : Int32) at_250 rfl rfl ?_
      refine g_goto D359 255 at_251 (by decide) (by decide) ?_
      exact r_Nw D359 hEW hret (by simp) hlk at_255 ⟨own_r1, NF358⟩ (by decide) (by decide)
    · rw [if_neg (fun g => Phm1 g.2)] at R358
      obtain rfl := R358
      show Go p e below _ (T358.setTop (mkF m 223 _ [.null]))
      refine g_astore D358 225 #[.val (.long i0), .second, .val (.long i1_), .second, .val (.int sel), .val (.int sh), .val (.int md1), .val (.int md2), .val (.int i1), .val (.int i2), .val (.int iq), .val (.int eb), .val (.ref ny), .val (.int c0), .val (.int (0 : Int32)), .val (.int m2), .val (.int (61 : Int32)), .val (.ref a341), .val .null] at_223 rfl rfl rfl ?_
      refine g_iload D358 227 at_225 rfl rfl ?_
      refine g_bipush D358 229 (61 : Int32) at_227 rfl rfl ?_
      refine g_icmpN D358 232 at_229 (by decide) rfl ?_
      refine g_iload D358 234 at_232 rfl rfl ?_
      refine g_ifY D358 256 at_234 (by decide) (by decide) (by decide) ?_
      refine g_aload D358 258 at_256 rfl rfl rfl ?_
      refine g_nnN D358 261 at_258 rfl ?_
      refine g_iconst D358 262 (1 : Int32) at_261 rfl rfl ?_
      refine g_goto D358 266 at_262 (by decide) (by decide) ?_
      exact r_Nw D358 hEW hret (by simp) hlk at_266 ⟨own_r1, NF358⟩ (by decide) (by decide)
  refine g_icmpY D313 267 at_150 (feq zs1).2 (by decide) (by decide) ?_
  refine g_bipush D313 269 (18 : Int32) at_267 rfl rfl ?_
  refine g_newP D313 271 (aty := .char) (hw _ w_38) at_269 (by decide) (cap := 18) (by decide) (by decide) (by decide) (by decide) (fun _ E => D313.iv.ext E) rfl ?_
  intro T360 h360 a360 k360 g360 E360 V360 D360
  have V360' : Arv Z h360 a360 k360 .char (18 : Int32) [(.int (0 : Int32)), (.int (0 : Int32)), (.int (0 : Int32)), (.int (0 : Int32)), (.int (0 : Int32)), (.int (0 : Int32)), (.int (0 : Int32)), (.int (0 : Int32)), (.int (0 : Int32)), (.int (0 : Int32)), (.int (0 : Int32)), (.int (0 : Int32)), (.int (0 : Int32)), (.int (0 : Int32)), (.int (0 : Int32)), (.int (0 : Int32)), (.int (0 : Int32)), (.int (0 : Int32))] (.int (0 : Int32)) := V360.pad (pad_rep [] (.int (0 : Int32)) 18)
  refine g_astore D360 273 #[.val (.long i0), .second, .val (.long i1_), .second, .val (.int sel), .val (.int sh), .val (.int md1), .val (.int md2), .val (.int i1), .val (.int i2), .val (.int iq), .val (.int eb), .val (.ref ny), .val (.int c0), .val (.int m1), .val (.int m2), .val (.ref a360), .unset, .unset] at_271 rfl rfl rfl ?_
  refine g_aload D360 275 at_273 rfl rfl rfl ?_
  refine g_iconst D360 276 (0 : Int32) at_275 rfl rfl ?_
  refine g_iload D360 278 at_276 rfl rfl ?_
  refine g_castore D360 279 V360' ⟨by decide, by decide⟩ 0 (by decide) (Nat.le_of_ble_eq_true rfl) (fun _ W => D360.iv.wr (Safe.arv D360.wm.alike V360' (by decide)) W) at_278 rfl ?_
  intro T361 h361 W361 V361 D361
  rw [nar_c bc0] at V361
  replace V361 : Arv Z h361 a360 k360 .char (18 : Int32) [(.int c0), (.int (0 : Int32)), (.int (0 : Int32)), (.int (0 : Int32)), (.int (0 : Int32)), (.int (0 : Int32)), (.int (0 : Int32)), (.int (0 : Int32)), (.int (0 : Int32)), (.int (0 : Int32)), (.int (0 : Int32)), (.int (0 : Int32)), (.int (0 : Int32)), (.int (0 : Int32)), (.int (0 : Int32)), (.int (0 : Int32)), (.int (0 : Int32)), (.int (0 : Int32))] (.int (0 : Int32)) := V361
  have N361 := Fr.snoc D361.st NF312 (Nat.le_trans (Nat.le_trans Z0 E312.1) (Nat.le_of_eq g360.symm))
  refine g_aload D361 281 at_279 rfl rfl rfl ?_
  refine g_iconst D361 282 (1 : Int32) at_281 rfl rfl ?_
  refine g_bipush D361 284 (59 : Int32) at_282 rfl rfl ?_
  refine g_castore D361 285 V361 ⟨by decide, by decide⟩ 1 (by decide) (Nat.le_of_ble_eq_true rfl) (fun _ W => D361.iv.wr (Safe.arv D361.wm.alike V361 (by decide)) W) at_284 rfl ?_
  intro T362 h362 W362 V362 D362
  rw [nar_c (by decide)] at V362
  replace V362 : Arv Z h362 a360 k360 .char (18 : Int32) [(.int c0), (.int (59 : Int32)), (.int (0 : Int32)), (.int (0 : Int32)), (.int (0 : Int32)), (.int (0 : Int32)), (.int (0 : Int32)), (.int (0 : Int32)), (.int (0 : Int32)), (.int (0 : Int32)), (.int (0 : Int32)), (.int (0 : Int32)), (.int (0 : Int32)), (.int (0 : Int32)), (.int (0 : Int32)), (.int (0 : Int32)), (.int (0 : Int32)), (.int (0 : Int32))] (.int (0 : Int32)) := V362
  have N362 := Fr.snoc D362.st N361 (Nat.le_trans (Nat.le_trans Z0 E312.1) (Nat.le_of_eq g360.symm))
  refine g_aload D362 287 at_285 rfl rfl rfl ?_
  refine g_iconst D362 288 (2 : Int32) at_287 rfl rfl ?_
  refine g_bipush D362 290 (32 : Int32) at_288 rfl rfl ?_
  refine g_castore D362 291 V362 ⟨by decide, by decide⟩ 2 (by decide) (Nat.le_of_ble_eq_true rfl) (fun _ W => D362.iv.wr (Safe.arv D362.wm.alike V362 (by decide)) W) at_290 rfl ?_
  intro T363 h363 W363 V363 D363
  rw [nar_c (by decide)] at V363
  replace V363 : Arv Z h363 a360 k360 .char (18 : Int32) [(.int c0), (.int (59 : Int32)), (.int (32 : Int32)), (.int (0 : Int32)), (.int (0 : Int32)), (.int (0 : Int32)), (.int (0 : Int32)), (.int (0 : Int32)), (.int (0 : Int32)), (.int (0 : Int32)), (.int (0 : Int32)), (.int (0 : Int32)), (.int (0 : Int32)), (.int (0 : Int32)), (.int (0 : Int32)), (.int (0 : Int32)), (.int (0 : Int32)), (.int (0 : Int32))] (.int (0 : Int32)) := V363
  have N363 := Fr.snoc D363.st N362 (Nat.le_trans (Nat.le_trans Z0 E312.1) (Nat.le_of_eq g360.symm))
  refine g_aload D363 293 at_291 rfl rfl rfl ?_
  refine g_iconst D363 294 (3 : Int32) at_293 rfl rfl ?_
  refine g_iload D363 296 at_294 rfl rfl ?_
  have cz364 : n0 ≤ h363.size := (Nat.le_trans (Nat.le_trans (Nat.le_trans (Nat.le_trans (Nat.le_trans Z0 E312.1) E360.1) (Keep.of_wr W361).1) (Keep.of_wr W362).1) (Keep.of_wr W363).1)
  refine g_callSp D363 299 (hw _ w_0) (hw _ w_1) (hw _ w_2) (hw _ w_3) (by decide) ((cLe l Z a0 hw [] i1 h363 n0 cz364).back D363 2 (hw _ w_3) (hw _ w_2) (by decide) (by decide)) rfl [(.int i1)] rfl (lenOf pd_18 rfl) rfl (Nat.le_of_eq rfl) (by decide) (by decide) at_296 rfl ?_
  intro v365 T365 q365 D365
  subst q365
  show Go p e below _ (T365.setTop (mkF m 299 _ [(.int (own_let i1)), (.int (3 : Int32)), (.ref a360)]))
  refine g_castore D365 300 V363 ⟨by decide, by decide⟩ 3 (by decide) (Nat.le_of_ble_eq_true rfl) (fun _ W => D365.iv.wr (Safe.arv D365.wm.alike V363 (by decide)) W) at_299 rfl ?_
  intro T366 h366 W366 V366 D366
  rw [nar_c (own_isl8 (own_letl i1)).1] at V366
  replace V366 : Arv Z h366 a360 k360 .char (18 : Int32) [(.int c0), (.int (59 : Int32)), (.int (32 : Int32)), (.int (own_let i1)), (.int (0 : Int32)), (.int (0 : Int32)), (.int (0 : Int32)), (.int (0 : Int32)), (.int (0 : Int32)), (.int (0 : Int32)), (.int (0 : Int32)), (.int (0 : Int32)), (.int (0 : Int32)), (.int (0 : Int32)), (.int (0 : Int32)), (.int (0 : Int32)), (.int (0 : Int32)), (.int (0 : Int32))] (.int (0 : Int32)) := V366
  have N366 := Fr.snoc D366.st N363 (Nat.le_trans (Nat.le_trans Z0 E312.1) (Nat.le_of_eq g360.symm))
  refine g_aload D366 302 at_300 rfl rfl rfl ?_
  refine g_iconst D366 303 (4 : Int32) at_302 rfl rfl ?_
  refine g_bipush D366 305 (9 : Int32) at_303 rfl rfl ?_
  refine g_castore D366 306 V366 ⟨by decide, by decide⟩ 4 (by decide) (Nat.le_of_ble_eq_true rfl) (fun _ W => D366.iv.wr (Safe.arv D366.wm.alike V366 (by decide)) W) at_305 rfl ?_
  intro T367 h367 W367 V367 D367
  rw [nar_c (by decide)] at V367
  replace V367 : Arv Z h367 a360 k360 .char (18 : Int32) [(.int c0), (.int (59 : Int32)), (.int (32 : Int32)), (.int (own_let i1)), (.int (9 : Int32)), (.int (0 : Int32)), (.int (0 : Int32)), (.int (0 : Int32)), (.int (0 : Int32)), (.int (0 : Int32)), (.int (0 : Int32)), (.int (0 : Int32)), (.int (0 : Int32)), (.int (0 : Int32)), (.int (0 : Int32)), (.int (0 : Int32)), (.int (0 : Int32)), (.int (0 : Int32))] (.int (0 : Int32)) := V367
  have N367 := Fr.snoc D367.st N366 (Nat.le_trans (Nat.le_trans Z0 E312.1) (Nat.le_of_eq g360.symm))
  refine g_aload D367 308 at_306 rfl rfl rfl ?_
  refine g_iconst D367 309 (5 : Int32) at_308 rfl rfl ?_
  refine g_bipush D367 311 (61 : Int32) at_309 rfl rfl ?_
  refine g_castore D367 312 V367 ⟨by decide, by decide⟩ 5 (by decide) (Nat.le_of_ble_eq_true rfl) (fun _ W => D367.iv.wr (Safe.arv D367.wm.alike V367 (by decide)) W) at_311 rfl ?_
  intro T368 h368 W368 V368 D368
  rw [nar_c (by decide)] at V368
  replace V368 : Arv Z h368 a360 k360 .char (18 : Int32) [(.int c0), (.int (59 : Int32)), (.int (32 : Int32)), (.int (own_let i1)), (.int (9 : Int32)), (.int (61 : Int32)), (.int (0 : Int32)), (.int (0 : Int32)), (.int (0 : Int32)), (.int (0 : Int32)), (.int (0 : Int32)), (.int (0 : Int32)), (.int (0 : Int32)), (.int (0 : Int32)), (.int (0 : Int32)), (.int (0 : Int32)), (.int (0 : Int32)), (.int (0 : Int32))] (.int (0 : Int32)) := V368
  have N368 := Fr.snoc D368.st N367 (Nat.le_trans (Nat.le_trans Z0 E312.1) (Nat.le_of_eq g360.symm))
  refine g_iload D368 314 at_312 rfl rfl ?_
  have cf369 := ((((((((OLD.ext E312).ext E360).wr W361 (Nat.le_trans (Nat.le_trans Z0 E312.1) (Nat.le_of_eq g360.symm))).wr W362 (Nat.le_trans (Nat.le_trans Z0 E312.1) (Nat.le_of_eq g360.symm))).wr W363 (Nat.le_trans (Nat.le_trans Z0 E312.1) (Nat.le_of_eq g360.symm))).wr W366 (Nat.le_trans (Nat.le_trans Z0 E312.1) (Nat.le_of_eq g360.symm))).wr W367 (Nat.le_trans (Nat.le_trans Z0 E312.1) (Nat.le_of_eq g360.symm))).wr W368 (Nat.le_trans (Nat.le_trans Z0 E312.1) (Nat.le_of_eq g360.symm)))
  have cf370 := (((((((y1.ext E360).wr W361).wr W362).wr W363).wr W366).wr W367).wr W368)
  have cf371 := (((((((y2.ext E360).other W361 (Or.inl (Nat.ne_of_lt (Nat.lt_of_lt_of_le y1.lt (Nat.le_of_eq g360.symm))))).other W362 (Or.inl (Nat.ne_of_lt (Nat.lt_of_lt_of_le y1.lt (Nat.le_of_eq g360.symm))))).other W363 (Or.inl (Nat.ne_of_lt (Nat.lt_of_lt_of_le y1.lt (Nat.le_of_eq g360.symm))))).other W366 (Or.inl (Nat.ne_of_lt (Nat.lt_of_lt_of_le y1.lt (Nat.le_of_eq g360.symm))))).other W367 (Or.inl (Nat.ne_of_lt (Nat.lt_of_lt_of_le y1.lt (Nat.le_of_eq g360.symm))))).other W368 (Or.inl (Nat.ne_of_lt (Nat.lt_of_lt_of_le y1.lt (Nat.le_of_eq g360.symm)))))
  have cf372 := (((((((y3.ext E360).other W361 (Or.inl (Nat.ne_of_lt (Nat.lt_of_lt_of_le y1.lt (Nat.le_of_eq g360.symm))))).other W362 (Or.inl (Nat.ne_of_lt (Nat.lt_of_lt_of_le y1.lt (Nat.le_of_eq g360.symm))))).other W363 (Or.inl (Nat.ne_of_lt (Nat.lt_of_lt_of_le y1.lt (Nat.le_of_eq g360.symm))))).other W366 (Or.inl (Nat.ne_of_lt (Nat.lt_of_lt_of_le y1.lt (Nat.le_of_eq g360.symm))))).other W367 (Or.inl (Nat.ne_of_lt (Nat.lt_of_lt_of_le y1.lt (Nat.le_of_eq g360.symm))))).other W368 (Or.inl (Nat.ne_of_lt (Nat.lt_of_lt_of_le y1.lt (Nat.le_of_eq g360.symm)))))
  have cf373 := (((((((y4.ext E360).other W361 (Nat.ne_of_lt (Nat.lt_of_lt_of_le y4.lt (Nat.le_of_eq g360.symm)))).other W362 (Nat.ne_of_lt (Nat.lt_of_lt_of_le y4.lt (Nat.le_of_eq g360.symm)))).other W363 (Nat.ne_of_lt (Nat.lt_of_lt_of_le y4.lt (Nat.le_of_eq g360.symm)))).other W366 (Nat.ne_of_lt (Nat.lt_of_lt_of_le y4.lt (Nat.le_of_eq g360.symm)))).other W367 (Nat.ne_of_lt (Nat.lt_of_lt_of_le y4.lt (Nat.le_of_eq g360.symm)))).other W368 (Nat.ne_of_lt (Nat.lt_of_lt_of_le y4.lt (Nat.le_of_eq g360.symm))))
  have cz374 : n0 ≤ h368.size := (Nat.le_trans (Nat.le_trans (Nat.le_trans cz364 (Keep.of_wr W366).1) (Keep.of_wr W367).1) (Keep.of_wr W368).1)
  by_cases za0 : md1 = (0 : Int32)
  · refine g_ifN D368 317 at_314 (teq za0).2 rfl ?_
    refine g_aload D368 319 at_317 rfl rfl rfl ?_
    refine g_bipush D368 321 (6 : Int32) at_319 rfl rfl ?_
    refine g_lloadN D368 322 at_321 rfl rfl ?_
    refine g_iconst D368 323 (1 : Int32) at_322 rfl rfl ?_
    refine g_callSp D368 326 (hw _ w_30) (hw _ w_31) (hw _ w_2) (hw _ w_32) (by decide) ((cCh l Z a0 hw [] _ _ h368 n0 cz374).back D368 2 (hw _ w_32) (hw _ w_2) (by decide) (by decide)) rfl [(.long i0), (.int (1 : Int32))] rfl (lenOf pd_26 rfl) rfl (Nat.le_of_eq rfl) (by decide) (by decide) at_323 rfl ?_
    intro v376 T376 q376 D376
    obtain ⟨ch375, rfl, bch375⟩ := q376
    show Go p e below _ (T376.setTop (mkF m 326 _ [(.int ch375), (.int (6 : Int32)), (.ref a360)]))
    refine g_callSp D376 329 (hw _ w_42) (hw _ w_43) (hw _ w_2) (hw _ w_44) (by decide) ((cSemi l Z a0 hw [] ch375 h368 n0 cz374 bch375).back D376 2 (hw _ w_44) (hw _ w_2) (by decide) (by decide)) rfl [(.int ch375)] rfl (lenOf pd_29 rfl) rfl (Nat.le_of_eq rfl) (by decide) (by decide) at_326 rfl ?_
    intro v378 T378 q378 D378
    obtain ⟨se377, rfl, bse377, nse377, ose377⟩ := q378
    show Go p e below _ (T378.setTop (mkF m 329 _ [(.int se377), (.int (6 : Int32)), (.ref a360)]))
    refine g_callSp D378 332 (hw _ w_39) (hw _ w_40) (hw _ w_2) (hw _ w_41) (by decide) ((cQuo l Z a0 hw [] se377 h368 n0 cz374 bse377).back D378 2 (hw _ w_41) (hw _ w_2) (by decide) (by decide)) rfl [(.int se377)] rfl (lenOf pd_29 rfl) rfl (Nat.le_of_eq rfl) (by decide) (by decide) at_329 rfl ?_
    intro v380 T380 q380 D380
    obtain ⟨qu379, rfl, bqu379, nqu379, oqu379⟩ := q380
    show Go p e below _ (T380.setTop (mkF m 332 _ [(.int qu379), (.int (6 : Int32)), (.ref a360)]))
    refine g_castore D380 333 V368 ⟨by decide, by decide⟩ 6 (by decide) (Nat.le_of_ble_eq_true rfl) (fun _ W => D380.iv.wr (Safe.arv D380.wm.alike V368 (by decide)) W) at_332 rfl ?_
    intro T381 h381 W381 V381 D381
    rw [nar_c bqu379] at V381
    replace V381 : Arv Z h381 a360 k360 .char (18 : Int32) [(.int c0), (.int (59 : Int32)), (.int (32 : Int32)), (.int (own_let i1)), (.int (9 : Int32)), (.int (61 : Int32)), (.int qu379), (.int (0 : Int32)), (.int (0 : Int32)), (.int (0 : Int32)), (.int (0 : Int32)), (.int (0 : Int32)), (.int (0 : Int32)), (.int (0 : Int32)), (.int (0 : Int32)), (.int (0 : Int32)), (.int (0 : Int32)), (.int (0 : Int32))] (.int (0 : Int32)) := V381
    have N381 := Fr.snoc D381.st N368 (Nat.le_trans (Nat.le_trans Z0 E312.1) (Nat.le_of_eq g360.symm))
    refine g_aload D381 335 at_333 rfl rfl rfl ?_
    refine g_bipush D381 337 (7 : Int32) at_335 rfl rfl ?_
    refine g_lloadN D381 338 at_337 rfl rfl ?_
    refine g_iconst D381 339 (2 : Int32) at_338 rfl rfl ?_
    refine g_callSp D381 342 (hw _ w_30) (hw _ w_31) (hw _ w_2) (hw _ w_32) (by decide) ((cCh l Z a0 hw [] _ _ h381 n0 (Nat.le_trans cz374 (Keep.of_wr W381).1)).back D381 2 (hw _ w_32) (hw _ w_2) (by decide) (by decide)) rfl [(.long i0), (.int (2 : Int32))] rfl (lenOf pd_26 rfl) rfl (Nat.le_of_eq rfl) (by decide) (by decide) at_339 rfl ?_
    intro v383 T383 q383 D383
    obtain ⟨ch382, rfl, bch382⟩ := q383
    show Go p e below _ (T383.setTop (mkF m 342 _ [(.int ch382), (.int (7 : Int32)), (.ref a360)]))
    refine g_callSp D383 345 (hw _ w_42) (hw _ w_43) (hw _ w_2) (hw _ w_44) (by decide) ((cSemi l Z a0 hw [] ch382 h381 n0 (Nat.le_trans cz374 (Keep.of_wr W381).1) bch382).back D383 2 (hw _ w_44) (hw _ w_2) (by decide) (by decide)) rfl [(.int ch382)] rfl (lenOf pd_29 rfl) rfl (Nat.le_of_eq rfl) (by decide) (by decide) at_342 rfl ?_
    intro v385 T385 q385 D385
    obtain ⟨se384, rfl, bse384, nse384, ose384⟩ := q385
    show Go p e below _ (T385.setTop (mkF m 345 _ [(.int se384), (.int (7 : Int32)), (.ref a360)]))
    refine g_castore D385 346 V381 ⟨by decide, by decide⟩ 7 (by decide) (Nat.le_of_ble_eq_true rfl) (fun _ W => D385.iv.wr (Safe.arv D385.wm.alike V381 (by decide)) W) at_345 rfl ?_
    intro T386 h386 W386 V386 D386
    rw [nar_c bse384] at V386
    replace V386 : Arv Z h386 a360 k360 .char (18 : Int32) [(.int c0), (.int (59 : Int32)), (.int (32 : Int32)), (.int (own_let i1)), (.int (9 : Int32)), (.int (61 : Int32)), (.int qu379), (.int se384), (.int (0 : Int32)), (.int (0 : Int32)), (.int (0 : Int32)), (.int (0 : Int32)), (.int (0 : Int32)), (.int (0 : Int32)), (.int (0 : Int32)), (.int (0 : Int32)), (.int (0 : Int32)), (.int (0 : Int32))] (.int (0 : Int32)) := V386
    have N386 := Fr.snoc D386.st N381 (Nat.le_trans (Nat.le_trans Z0 E312.1) (Nat.le_of_eq g360.symm))
    refine g_aload D386 348 at_346 rfl rfl rfl ?_
    refine g_bipush D386 350 (8 : Int32) at_348 rfl rfl ?_
    refine g_lloadN D386 351 at_350 rfl rfl ?_
    refine g_iconst D386 352 (3 : Int32) at_351 rfl rfl ?_
    refine g_callSp D386 355 (hw _ w_30) (hw _ w_31) (hw _ w_2) (hw _ w_32) (by decide) ((cCh l Z a0 hw [] _ _ h386 n0 (Nat.le_trans (Nat.le_trans cz374 (Keep.of_wr W381).1) (Keep.of_wr W386).1)).back D386 2 (hw _ w_32) (hw _ w_2) (by decide) (by decide)) rfl [(.long i0), (.int (3 : Int32))] rfl (lenOf pd_26 rfl) rfl (Nat.le_of_eq rfl) (by decide) (by decide) at_352 rfl ?_
    intro v388 T388 q388 D388
    obtain ⟨ch387, rfl, bch387⟩ := q388
    show Go p e below _ (T388.setTop (mkF m 355 _ [(.int ch387), (.int (8 : Int32)), (.ref a360)]))
    refine g_callSp D388 358 (hw _ w_42) (hw _ w_43) (hw _ w_2) (hw _ w_44) (by decide) ((cSemi l Z a0 hw [] ch387 h386 n0 (Nat.le_trans (Nat.le_trans cz374 (Keep.of_wr W381).1) (Keep.of_wr W386).1) bch387).back D388 2 (hw _ w_44) (hw _ w_2) (by decide) (by decide)) rfl [(.int ch387)] rfl (lenOf pd_29 rfl) rfl (Nat.le_of_eq rfl) (by decide) (by decide) at_355 rfl ?_
    intro v390 T390 q390 D390
    obtain ⟨se389, rfl, bse389, nse389, ose389⟩ := q390
    show Go p e below _ (T390.setTop (mkF m 358 _ [(.int se389), (.int (8 : Int32)), (.ref a360)]))
    refine g_castore D390 359 V386 ⟨by decide, by decide⟩ 8 (by decide) (Nat.le_of_ble_eq_true rfl) (fun _ W => D390.iv.wr (Safe.arv D390.wm.alike V386 (by decide)) W) at_358 rfl ?_
    intro T391 h391 W391 V391 D391
    rw [nar_c bse389] at V391
    replace V391 : Arv Z h391 a360 k360 .char (18 : Int32) [(.int c0), (.int (59 : Int32)), (.int (32 : Int32)), (.int (own_let i1)), (.int (9 : Int32)), (.int (61 : Int32)), (.int qu379), (.int se384), (.int se389), (.int (0 : Int32)), (.int (0 : Int32)), (.int (0 : Int32)), (.int (0 : Int32)), (.int (0 : Int32)), (.int (0 : Int32)), (.int (0 : Int32)), (.int (0 : Int32)), (.int (0 : Int32))] (.int (0 : Int32)) := V391
    have N391 := Fr.snoc D391.st N386 (Nat.le_trans (Nat.le_trans Z0 E312.1) (Nat.le_of_eq g360.symm))
    refine g_aload D391 361 at_359 rfl rfl rfl ?_
    refine g_bipush D391 363 (9 : Int32) at_361 rfl rfl ?_
    refine g_lloadN D391 364 at_363 rfl rfl ?_
    refine g_iconst D391 365 (4 : Int32) at_364 rfl rfl ?_
    have cz393 : n0 ≤ h391.size := (Nat.le_trans (Nat.le_trans (Nat.le_trans cz374 (Keep.of_wr W381).1) (Keep.of_wr W386).1) (Keep.of_wr W391).1)
    refine g_callSp D391 368 (hw _ w_30) (hw _ w_31) (hw _ w_2) (hw _ w_32) (by decide) ((cCh l Z a0 hw [] _ _ h391 n0 cz393).back D391 2 (hw _ w_32) (hw _ w_2) (by decide) (by decide)) rfl [(.long i0), (.int (4 : Int32))] rfl (lenOf pd_26 rfl) rfl (Nat.le_of_eq rfl) (by decide) (by decide) at_365 rfl ?_
    intro v394 T394 q394 D394
    obtain ⟨ch392, rfl, bch392⟩ := q394
    show Go p e below _ (T394.setTop (mkF m 368 _ [(.int ch392), (.int (9 : Int32)), (.ref a360)]))
    refine g_callSp D394 371 (hw _ w_42) (hw _ w_43) (hw _ w_2) (hw _ w_44) (by decide) ((cSemi l Z a0 hw [] ch392 h391 n0 cz393 bch392).back D394 2 (hw _ w_44) (hw _ w_2) (by decide) (by decide)) rfl [(.int ch392)] rfl (lenOf pd_29 rfl) rfl (Nat.le_of_eq rfl) (by decide) (by decide) at_368 rfl ?_
    intro v396 T396 q396 D396
    obtain ⟨se395, rfl, bse395, nse395, ose395⟩ := q396
    show Go p e below _ (T396.setTop (mkF m 371 _ [(.int se395), (.int (9 : Int32)), (.ref a360)]))
    refine g_castore D396 372 V391 ⟨by decide, by decide⟩ 9 (by decide) (Nat.le_of_ble_eq_true rfl) (fun _ W => D396.iv.wr (Safe.arv D396.wm.alike V391 (by decide)) W) at_371 rfl ?_
    intro T397 h397 W397 V397 D397
    rw [nar_c bse395] at V397
    replace V397 : Arv Z h397 a360 k360 .char (18 : Int32) [(.int c0), (.int (59 : Int32)), (.int (32 : Int32)), (.int (own_let i1)), (.int (9 : Int32)), (.int (61 : Int32)), (.int qu379), (.int se384), (.int se389), (.int se395), (.int (0 : Int32)), (.int (0 : Int32)), (.int (0 : Int32)), (.int (0 : Int32)), (.int (0 : Int32)), (.int (0 : Int32)), (.int (0 : Int32)), (.int (0 : Int32))] (.int (0 : Int32)) := V397
    have N397 := Fr.snoc D397.st N391 (Nat.le_trans (Nat.le_trans Z0 E312.1) (Nat.le_of_eq g360.symm))
    refine g_goto D397 415 at_372 (by decide) (by decide) ?_
    refine g_aload D397 417 at_415 rfl rfl rfl ?_
    refine g_bipush D397 419 (10 : Int32) at_417 rfl rfl ?_
    refine g_bipush D397 421 (59 : Int32) at_419 rfl rfl ?_
    refine g_castore D397 422 V397 ⟨by decide, by decide⟩ 10 (by decide) (Nat.le_of_ble_eq_true rfl) (fun _ W => D397.iv.wr (Safe.arv D397.wm.alike V397 (by decide)) W) at_421 rfl ?_
    intro T398 h398 W398 V398 D398
    rw [nar_c (by decide)] at V398
    replace V398 : Arv Z h398 a360 k360 .char (18 : Int32) [(.int c0), (.int (59 : Int32)), (.int (32 : Int32)), (.int (own_let i1)), (.int (9 : Int32)), (.int (61 : Int32)), (.int qu379), (.int se384), (.int se389), (.int se395), (.int (59 : Int32)), (.int (0 : Int32)), (.int (0 : Int32)), (.int (0 : Int32)), (.int (0 : Int32)), (.int (0 : Int32)), (.int (0 : Int32)), (.int (0 : Int32))] (.int (0 : Int32)) := V398
    have N398 := Fr.snoc D398.st N397 (Nat.le_trans (Nat.le_trans Z0 E312.1) (Nat.le_of_eq g360.symm))
    refine g_aload D398 424 at_422 rfl rfl rfl ?_
    refine g_bipush D398 426 (11 : Int32) at_424 rfl rfl ?_
    refine g_iload D398 428 at_426 rfl rfl ?_
    refine g_callSp D398 431 (hw _ w_0) (hw _ w_1) (hw _ w_2) (hw _ w_3) (by decide) ((cLe l Z a0 hw [] i2 h398 n0 (Nat.le_trans (Nat.le_trans cz393 (Keep.of_wr W397).1) (Keep.of_wr W398).1)).back D398 2 (hw _ w_3) (hw _ w_2) (by decide) (by decide)) rfl [(.int i2)] rfl (lenOf pd_18 rfl) rfl (Nat.le_of_eq rfl) (by decide) (by decide) at_428 rfl ?_
    intro v399 T399 q399 D399
    subst q399
    show Go p e below _ (T399.setTop (mkF m 431 _ [(.int (own_let i2)), (.int (11 : Int32)), (.ref a360)]))
    refine g_castore D399 432 V398 ⟨by decide, by decide⟩ 11 (by decide) (Nat.le_of_ble_eq_true rfl) (fun _ W => D399.iv.wr (Safe.arv D399.wm.alike V398 (by decide)) W) at_431 rfl ?_
    intro T400 h400 W400 V400 D400
    rw [nar_c (own_isl8 (own_letl i2)).1] at V400
    replace V400 : Arv Z h400 a360 k360 .char (18 : Int32) [(.int c0), (.int (59 : Int32)), (.int (32 : Int32)), (.int (own_let i1)), (.int (9 : Int32)), (.int (61 : Int32)), (.int qu379), (.int se384), (.int se389), (.int se395), (.int (59 : Int32)), (.int (own_let i2)), (.int (0 : Int32)), (.int (0 : Int32)), (.int (0 : Int32)), (.int (0 : Int32)), (.int (0 : Int32)), (.int (0 : Int32))] (.int (0 : Int32)) := V400
    have N400 := Fr.snoc D400.st N398 (Nat.le_trans (Nat.le_trans Z0 E312.1) (Nat.le_of_eq g360.symm))
    refine g_aload D400 434 at_432 rfl rfl rfl ?_
    refine g_bipush D400 436 (12 : Int32) at_434 rfl rfl ?_
    refine g_bipush D400 438 (32 : Int32) at_436 rfl rfl ?_
    refine g_castore D400 439 V400 ⟨by decide, by decide⟩ 12 (by decide) (Nat.le_of_ble_eq_true rfl) (fun _ W => D400.iv.wr (Safe.arv D400.wm.alike V400 (by decide)) W) at_438 rfl ?_
    intro T401 h401 W401 V401 D401
    rw [nar_c (by decide)] at V401
    replace V401 : Arv Z h401 a360 k360 .char (18 : Int32) [(.int c0), (.int (59 : Int32)), (.int (32 : Int32)), (.int (own_let i1)), (.int (9 : Int32)), (.int (61 : Int32)), (.int qu379), (.int se384), (.int se389), (.int se395), (.int (59 : Int32)), (.int (own_let i2)), (.int (32 : Int32)), (.int (0 : Int32)), (.int (0 : Int32)), (.int (0 : Int32)), (.int (0 : Int32)), (.int (0 : Int32))] (.int (0 : Int32)) := V401
    have N401 := Fr.snoc D401.st N400 (Nat.le_trans (Nat.le_trans Z0 E312.1) (Nat.le_of_eq g360.symm))
    refine g_aload D401 441 at_439 rfl rfl rfl ?_
    refine g_bipush D401 443 (13 : Int32) at_441 rfl rfl ?_
    refine g_bipush D401 445 (61 : Int32) at_443 rfl rfl ?_
    refine g_castore D401 446 V401 ⟨by decide, by decide⟩ 13 (by decide) (Nat.le_of_ble_eq_true rfl) (fun _ W => D401.iv.wr (Safe.arv D401.wm.alike V401 (by decide)) W) at_445 rfl ?_
    intro T402 h402 W402 V402 D402
    rw [nar_c (by decide)] at V402
    replace V402 : Arv Z h402 a360 k360 .char (18 : Int32) [(.int c0), (.int (59 : Int32)), (.int (32 : Int32)), (.int (own_let i1)), (.int (9 : Int32)), (.int (61 : Int32)), (.int qu379), (.int se384), (.int se389), (.int se395), (.int (59 : Int32)), (.int (own_let i2)), (.int (32 : Int32)), (.int (61 : Int32)), (.int (0 : Int32)), (.int (0 : Int32)), (.int (0 : Int32)), (.int (0 : Int32))] (.int (0 : Int32)) := V402
    have N402 := Fr.snoc D402.st N401 (Nat.le_trans (Nat.le_trans Z0 E312.1) (Nat.le_of_eq g360.symm))
    refine g_iload D402 448 at_446 rfl rfl ?_
    have cf403 := ((((((((cf369.wr W381 (Nat.le_trans (Nat.le_trans Z0 E312.1) (Nat.le_of_eq g360.symm))).wr W386 (Nat.le_trans (Nat.le_trans Z0 E312.1) (Nat.le_of_eq g360.symm))).wr W391 (Nat.le_trans (Nat.le_trans Z0 E312.1) (Nat.le_of_eq g360.symm))).wr W397 (Nat.le_trans (Nat.le_trans Z0 E312.1) (Nat.le_of_eq g360.symm))).wr W398 (Nat.le_trans (Nat.le_trans Z0 E312.1) (Nat.le_of_eq g360.symm))).wr W400 (Nat.le_trans (Nat.le_trans Z0 E312.1) (Nat.le_of_eq g360.symm))).wr W401 (Nat.le_trans (Nat.le_trans Z0 E312.1) (Nat.le_of_eq g360.symm))).wr W402 (Nat.le_trans (Nat.le_trans Z0 E312.1) (Nat.le_of_eq g360.symm)))
    have cf404 := ((((((((cf370.wr W381).wr W386).wr W391).wr W397).wr W398).wr W400).wr W401).wr W402)
    have cf405 := ((((((((cf371.other W381 (Or.inl (Nat.ne_of_lt (Nat.lt_of_lt_of_le y1.lt (Nat.le_of_eq g360.symm))))).other W386 (Or.inl (Nat.ne_of_lt (Nat.lt_of_lt_of_le y1.lt (Nat.le_of_eq g360.symm))))).other W391 (Or.inl (Nat.ne_of_lt (Nat.lt_of_lt_of_le y1.lt (Nat.le_of_eq g360.symm))))).other W397 (Or.inl (Nat.ne_of_lt (Nat.lt_of_lt_of_le y1.lt (Nat.le_of_eq g360.symm))))).other W398 (Or.inl (Nat.ne_of_lt (Nat.lt_of_lt_of_le y1.lt (Nat.le_of_eq g360.symm))))).other W400 (Or.inl (Nat.ne_of_lt (Nat.lt_of_lt_of_le y1.lt (Nat.le_of_eq g360.symm))))).other W401 (Or.inl (Nat.ne_of_lt (Nat.lt_of_lt_of_le y1.lt (Nat.le_of_eq g360.symm))))).other W402 (Or.inl (Nat.ne_of_lt (Nat.lt_of_lt_of_le y1.lt (Nat.le_of_eq g360.symm)))))
    have cf406 := ((((((((cf372.other W381 (Or.inl (Nat.ne_of_lt (Nat.lt_of_lt_of_le y1.lt (Nat.le_of_eq g360.symm))))).other W386 (Or.inl (Nat.ne_of_lt (Nat.lt_of_lt_of_le y1.lt (Nat.le_of_eq g360.symm))))).other W391 (Or.inl (Nat.ne_of_lt (Nat.lt_of_lt_of_le y1.lt (Nat.le_of_eq g360.symm))))).other W397 (Or.inl (Nat.ne_of_lt (Nat.lt_of_lt_of_le y1.lt (Nat.le_of_eq g360.symm))))).other W398 (Or.inl (Nat.ne_of_lt (Nat.lt_of_lt_of_le y1.lt (Nat.le_of_eq g360.symm))))).other W400 (Or.inl (Nat.ne_of_lt (Nat.lt_of_lt_of_le y1.lt (Nat.le_of_eq g360.symm))))).other W401 (Or.inl (Nat.ne_of_lt (Nat.lt_of_lt_of_le y1.lt (Nat.le_of_eq g360.symm))))).other W402 (Or.inl (Nat.ne_of_lt (Nat.lt_of_lt_of_le y1.lt (Nat.le_of_eq g360.symm)))))
    have cf407 := ((((((((cf373.other W381 (Nat.ne_of_lt (Nat.lt_of_lt_of_le y4.lt (Nat.le_of_eq g360.symm)))).other W386 (Nat.ne_of_lt (Nat.lt_of_lt_of_le y4.lt (Nat.le_of_eq g360.symm)))).other W391 (Nat.ne_of_lt (Nat.lt_of_lt_of_le y4.lt (Nat.le_of_eq g360.symm)))).other W397 (Nat.ne_of_lt (Nat.lt_of_lt_of_le y4.lt (Nat.le_of_eq g360.symm)))).other W398 (Nat.ne_of_lt (Nat.lt_of_lt_of_le y4.lt (Nat.le_of_eq g360.symm)))).other W400 (Nat.ne_of_lt (Nat.lt_of_lt_of_le y4.lt (Nat.le_of_eq g360.symm)))).other W401 (Nat.ne_of_lt (Nat.lt_of_lt_of_le y4.lt (Nat.le_of_eq g360.symm)))).other W402 (Nat.ne_of_lt (Nat.lt_of_lt_of_le y4.lt (Nat.le_of_eq g360.symm))))
    have cz408 : n0 ≤ h402.size := (Nat.le_trans (Nat.le_trans (Nat.le_trans (Nat.le_trans (Nat.le_trans cz393 (Keep.of_wr W397).1) (Keep.of_wr W398).1) (Keep.of_wr W400).1) (Keep.of_wr W401).1) (Keep.of_wr W402).1)
    by_cases zb0 : md2 = (0 : Int32)
    · refine g_ifN D402 451 at_448 (teq zb0).2 rfl ?_
      refine g_aload D402 453 at_451 rfl rfl rfl ?_
      refine g_bipush D402 455 (14 : Int32) at_453 rfl rfl ?_
      refine g_lloadN D402 456 at_455 rfl rfl ?_
      refine g_iconst D402 457 (0 : Int32) at_456 rfl rfl ?_
      refine g_callSp D402 460 (hw _ w_30) (hw _ w_31) (hw _ w_2) (hw _ w_32) (by decide) ((cCh l Z a0 hw [] _ _ h402 n0 cz408).back D402 2 (hw _ w_32) (hw _ w_2) (by decide) (by decide)) rfl [(.long i1_), (.int (0 : Int32))] rfl (lenOf pd_26 rfl) rfl (Nat.le_of_eq rfl) (by decide) (by decide) at_457 rfl ?_
      intro v410 T410 q410 D410
      obtain ⟨ch409, rfl, bch409⟩ := q410
      show Go p e below _ (T410.setTop (mkF m 460 _ [(.int ch409), (.int (14 : Int32)), (.ref a360)]))
      refine g_callSp D410 463 (hw _ w_42) (hw _ w_43) (hw _ w_2) (hw _ w_44) (by decide) ((cSemi l Z a0 hw [] ch409 h402 n0 cz408 bch409).back D410 2 (hw _ w_44) (hw _ w_2) (by decide) (by decide)) rfl [(.int ch409)] rfl (lenOf pd_29 rfl) rfl (Nat.le_of_eq rfl) (by decide) (by decide) at_460 rfl ?_
      intro v412 T412 q412 D412
      obtain ⟨se411, rfl, bse411, nse411, ose411⟩ := q412
      show Go p e below _ (T412.setTop (mkF m 463 _ [(.int se411), (.int (14 : Int32)), (.ref a360)]))
      refine g_callSp D412 466 (hw _ w_39) (hw _ w_40) (hw _ w_2) (hw _ w_41) (by decide) ((cQuo l Z a0 hw [] se411 h402 n0 cz408 bse411).back D412 2 (hw _ w_41) (hw _ w_2) (by decide) (by decide)) rfl [(.int se411)] rfl (lenOf pd_29 rfl) rfl (Nat.le_of_eq rfl) (by decide) (by decide) at_463 rfl ?_
      intro v414 T414 q414 D414
      obtain ⟨qu413, rfl, bqu413, nqu413, oqu413⟩ := q414
      show Go p e below _ (T414.setTop (mkF m 466 _ [(.int qu413), (.int (14 : Int32)), (.ref a360)]))
      refine g_castore D414 467 V402 ⟨by decide, by decide⟩ 14 (by decide) (Nat.le_of_ble_eq_true rfl) (fun _ W => D414.iv.wr (Safe.arv D414.wm.alike V402 (by decide)) W) at_466 rfl ?_
      intro T415 h415 W415 V415 D415
      rw [nar_c bqu413] at V415
      replace V415 : Arv Z h415 a360 k360 .char (18 : Int32) [(.int c0), (.int (59 : Int32)), (.int (32 : Int32)), (.int (own_let i1)), (.int (9 : Int32)), (.int (61 : Int32)), (.int qu379), (.int se384), (.int se389), (.int se395), (.int (59 : Int32)), (.int (own_let i2)), (.int (32 : Int32)), (.int (61 : Int32)), (.int qu413), (.int (0 : Int32)), (.int (0 : Int32)), (.int (0 : Int32))] (.int (0 : Int32)) := V415
      have N415 := Fr.snoc D415.st N402 (Nat.le_trans (Nat.le_trans Z0 E312.1) (Nat.le_of_eq g360.symm))
      refine g_aload D415 469 at_467 rfl rfl rfl ?_
      refine g_bipush D415 471 (15 : Int32) at_469 rfl rfl ?_
      refine g_lloadN D415 472 at_471 rfl rfl ?_
      refine g_iconst D415 473 (1 : Int32) at_472 rfl rfl ?_
      refine g_callSp D415 476 (hw _ w_30) (hw _ w_31) (hw _ w_2) (hw _ w_32) (by decide) ((cCh l Z a0 hw [] _ _ h415 n0 (Nat.le_trans cz408 (Keep.of_wr W415).1)).back D415 2 (hw _ w_32) (hw _ w_2) (by decide) (by decide)) rfl [(.long i1_), (.int (1 : Int32))] rfl (lenOf pd_26 rfl) rfl (Nat.le_of_eq rfl) (by decide) (by decide) at_473 rfl ?_
      intro v417 T417 q417 D417
      obtain ⟨ch416, rfl, bch416⟩ := q417
      show Go p e below _ (T417.setTop (mkF m 476 _ [(.int ch416), (.int (15 : Int32)), (.ref a360)]))
      refine g_callSp D417 479 (hw _ w_42) (hw _ w_43) (hw _ w_2) (hw _ w_44) (by decide) ((cSemi l Z a0 hw [] ch416 h415 n0 (Nat.le_trans cz408 (Keep.of_wr W415).1) bch416).back D417 2 (hw _ w_44) (hw _ w_2) (by decide) (by decide)) rfl [(.int ch416)] rfl (lenOf pd_29 rfl) rfl (Nat.le_of_eq rfl) (by decide) (by decide) at_476 rfl ?_
      intro v419 T419 q419 D419
      obtain ⟨se418, rfl, bse418, nse418, ose418⟩ := q419
      show Go p e below _ (T419.setTop (mkF m 479 _ [(.int se418), (.int (15 : Int32)), (.ref a360)]))
      refine g_castore D419 480 V415 ⟨by decide, by decide⟩ 15 (by decide) (Nat.le_of_ble_eq_true rfl) (fun _ W => D419.iv.wr (Safe.arv D419.wm.alike V415 (by decide)) W) at_479 rfl ?_
      intro T420 h420 W420 V420 D420
      rw [nar_c bse418] at V420
      replace V420 : Arv Z h420 a360 k360 .char (18 : Int32) [(.int c0), (.int (59 : Int32)), (.int (32 : Int32)), (.int (own_let i1)), (.int (9 : Int32)), (.int (61 : Int32)), (.int qu379), (.int se384), (.int se389), (.int se395), (.int (59 : Int32)), (.int (own_let i2)), (.int (32 : Int32)), (.int (61 : Int32)), (.int qu413), (.int se418), (.int (0 : Int32)), (.int (0 : Int32))] (.int (0 : Int32)) := V420
      have N420 := Fr.snoc D420.st N415 (Nat.le_trans (Nat.le_trans Z0 E312.1) (Nat.le_of_eq g360.symm))
      refine g_aload D420 482 at_480 rfl rfl rfl ?_
      refine g_bipush D420 484 (16 : Int32) at_482 rfl rfl ?_
      refine g_lloadN D420 485 at_484 rfl rfl ?_
      refine g_iconst D420 486 (2 : Int32) at_485 rfl rfl ?_
      refine g_callSp D420 489 (hw _ w_30) (hw _ w_31) (hw _ w_2) (hw _ w_32) (by decide) ((cCh l Z a0 hw [] _ _ h420 n0 (Nat.le_trans (Nat.le_trans cz408 (Keep.of_wr W415).1) (Keep.of_wr W420).1)).back D420 2 (hw _ w_32) (hw _ w_2) (by decide) (by decide)) rfl [(.long i1_), (.int (2 : Int32))] rfl (lenOf pd_26 rfl) rfl (Nat.le_of_eq rfl) (by decide) (by decide) at_486 rfl ?_
      intro v422 T422 q422 D422
      obtain ⟨ch421, rfl, bch421⟩ := q422
      show Go p e below _ (T422.setTop (mkF m 489 _ [(.int ch421), (.int (16 : Int32)), (.ref a360)]))
      refine g_callSp D422 492 (hw _ w_42) (hw _ w_43) (hw _ w_2) (hw _ w_44) (by decide) ((cSemi l Z a0 hw [] ch421 h420 n0 (Nat.le_trans (Nat.le_trans cz408 (Keep.of_wr W415).1) (Keep.of_wr W420).1) bch421).back D422 2 (hw _ w_44) (hw _ w_2) (by decide) (by decide)) rfl [(.int ch421)] rfl (lenOf pd_29 rfl) rfl (Nat.le_of_eq rfl) (by decide) (by decide) at_489 rfl ?_
      intro v424 T424 q424 D424
      obtain ⟨se423, rfl, bse423, nse423, ose423⟩ := q424
      show Go p e below _ (T424.setTop (mkF m 492 _ [(.int se423), (.int (16 : Int32)), (.ref a360)]))
      refine g_castore D424 493 V420 ⟨by decide, by decide⟩ 16 (by decide) (Nat.le_of_ble_eq_true rfl) (fun _ W => D424.iv.wr (Safe.arv D424.wm.alike V420 (by decide)) W) at_492 rfl ?_
      intro T425 h425 W425 V425 D425
      rw [nar_c bse423] at V425
      replace V425 : Arv Z h425 a360 k360 .char (18 : Int32) [(.int c0), (.int (59 : Int32)), (.int (32 : Int32)), (.int (own_let i1)), (.int (9 : Int32)), (.int (61 : Int32)), (.int qu379), (.int se384), (.int se389), (.int se395), (.int (59 : Int32)), (.int (own_let i2)), (.int (32 : Int32)), (.int (61 : Int32)), (.int qu413), (.int se418), (.int se423), (.int (0 : Int32))] (.int (0 : Int32)) := V425
      have N425 := Fr.snoc D425.st N420 (Nat.le_trans (Nat.le_trans Z0 E312.1) (Nat.le_of_eq g360.symm))
      refine g_aload D425 495 at_493 rfl rfl rfl ?_
      refine g_bipush D425 497 (17 : Int32) at_495 rfl rfl ?_
      refine g_lloadN D425 498 at_497 rfl rfl ?_
      refine g_iconst D425 499 (3 : Int32) at_498 rfl rfl ?_
      have cz427 : n0 ≤ h425.size := (Nat.le_trans (Nat.le_trans (Nat.le_trans cz408 (Keep.of_wr W415).1) (Keep.of_wr W420).1) (Keep.of_wr W425).1)
      refine g_callSp D425 502 (hw _ w_30) (hw _ w_31) (hw _ w_2) (hw _ w_32) (by decide) ((cCh l Z a0 hw [] _ _ h425 n0 cz427).back D425 2 (hw _ w_32) (hw _ w_2) (by decide) (by decide)) rfl [(.long i1_), (.int (3 : Int32))] rfl (lenOf pd_26 rfl) rfl (Nat.le_of_eq rfl) (by decide) (by decide) at_499 rfl ?_
      intro v428 T428 q428 D428
      obtain ⟨ch426, rfl, bch426⟩ := q428
      show Go p e below _ (T428.setTop (mkF m 502 _ [(.int ch426), (.int (17 : Int32)), (.ref a360)]))
      refine g_callSp D428 505 (hw _ w_42) (hw _ w_43) (hw _ w_2) (hw _ w_44) (by decide) ((cSemi l Z a0 hw [] ch426 h425 n0 cz427 bch426).back D428 2 (hw _ w_44) (hw _ w_2) (by decide) (by decide)) rfl [(.int ch426)] rfl (lenOf pd_29 rfl) rfl (Nat.le_of_eq rfl) (by decide) (by decide) at_502 rfl ?_
      intro v430 T430 q430 D430
      obtain ⟨se429, rfl, bse429, nse429, ose429⟩ := q430
      show Go p e below _ (T430.setTop (mkF m 505 _ [(.int se429), (.int (17 : Int32)), (.ref a360)]))
      refine g_castore D430 506 V425 ⟨by decide, by decide⟩ 17 (by decide) (Nat.le_of_ble_eq_true rfl) (fun _ W => D430.iv.wr (Safe.arv D430.wm.alike V425 (by decide)) W) at_505 rfl ?_
      intro T431 h431 W431 V431 D431
      rw [nar_c bse429] at V431
      replace V431 : Arv Z h431 a360 k360 .char (18 : Int32) [(.int c0), (.int (59 : Int32)), (.int (32 : Int32)), (.int (own_let i1)), (.int (9 : Int32)), (.int (61 : Int32)), (.int qu379), (.int se384), (.int se389), (.int se395), (.int (59 : Int32)), (.int (own_let i2)), (.int (32 : Int32)), (.int (61 : Int32)), (.int qu413), (.int se418), (.int se423), (.int se429)] (.int (0 : Int32)) := V431
      have N431 := Fr.snoc D431.st N425 (Nat.le_trans (Nat.le_trans Z0 E312.1) (Nat.le_of_eq g360.symm))
      refine g_goto D431 566 at_506 (by decide) (by decide) ?_
      refine g_newO D431 569 (hw _ w_45) (hw _ w_14) (hw _ w_6) at_566 (by decide) (by decide) (fun _ E => D431.iv.ext E) rfl ?_
      intro T432 h432 a432 g432 E432 A432 N432 D432
      refine g_dup D432 570 at_569 rfl rfl ?_
      refine g_aload D432 572 at_570 rfl rfl rfl ?_
      refine g_callN D432 575 rfl (hw _ w_46) (hw _ w_47) (hw _ w_48) (by decide) (StrChars.Road.backV (W := 1) D432.wm (fun d hd => hw d (wbv d hd)) (kI := 4) (hw _ w_14) (cs := [c0, (59 : Int32), (32 : Int32), (own_let i1), (9 : Int32), (61 : Int32), qu379, se384, se389, se395, (59 : Int32), (own_let i2), (32 : Int32), (61 : Int32), qu413, se418, se423, se429]) (bs := ([c0, (59 : Int32), (32 : Int32), (own_let i1), (9 : Int32), (61 : Int32), qu379, se384, se389, se395, (59 : Int32), (own_let i2), (32 : Int32), (61 : Int32), qu413, se418, se423, se429].map StrChars.lo8)) (n := 18) (n0 := n0) (Nat.le_trans (Nat.le_trans cz427 (Keep.of_wr W431).1) (Nat.le_of_eq g432.symm)) (Nat.le_trans (Nat.le_trans cz427 (Keep.of_wr W431).1) E432.1) A432 (N432 (Or.inr (hw _ w_27)) (ty := (.array .byte)) (by decide)) (N432 (Or.inr (hw _ w_29)) (ty := .byte) (by decide)) (V431.ext E432) (CS.ext (((((cf403.wr W415 (Nat.le_trans (Nat.le_trans Z0 E312.1) (Nat.le_of_eq g360.symm))).wr W420 (Nat.le_trans (Nat.le_trans Z0 E312.1) (Nat.le_of_eq g360.symm))).wr W425 (Nat.le_trans (Nat.le_trans Z0 E312.1) (Nat.le_of_eq g360.symm))).wr W431 (Nat.le_trans (Nat.le_trans Z0 E312.1) (Nat.le_of_eq g360.symm))).ext E432).2) hzc rfl rfl (by decide) (by decide) (b8_cons bc0 (b8_cons (by decide) (b8_cons (by decide) (b8_cons (own_isl8 (own_letl i1)).1 (b8_cons (by decide) (b8_cons (by decide) (b8_cons bqu379 (b8_cons bse384 (b8_cons bse389 (b8_cons bse395 (b8_cons (by decide) (b8_cons (own_isl8 (own_letl i2)).1 (b8_cons (by decide) (b8_cons (by decide) (b8_cons bqu413 (b8_cons bse418 (b8_cons bse423 (b8_cons bse429 b8_nil)))))))))))))))))) rfl (by decide) (by decide)) rfl [(.ref a360)] rfl (lenOf pd_28 rfl) rfl (Nat.le_of_eq rfl) (by decide) (by decide) (fun _ _ _ q => D432.iv.keep (sfS (safe_null D432.wm.alike A432 (N432 (Or.inr (hw _ w_27)) (ty := (.array .byte)) (by decide))) sf0) q.2.2.1) at_572 rfl ?_
      intro v433 T433 h433 L433 q433 D433
      obtain ⟨rfl, N433, K433, A433, C433, t433, kb433, -, -, -, Vf433, Va433⟩ := q433
      have NF433 := Fr.app N431 N433
      have X433 : LS Z h433 a432 [c0, (59 : Int32), (32 : Int32), (own_let i1), (9 : Int32), (61 : Int32), qu379, se384, se389, se395, (59 : Int32), (own_let i2), (32 : Int32), (61 : Int32), qu413, se418, se423, se429] := ⟨t433, kb433, A433, C433, Vf433, Va433, (b8_cons bc0 (b8_cons (by decide) (b8_cons (by decide) (b8_cons (own_isl8 (own_letl i1)).1 (b8_cons (by decide) (b8_cons (by decide) (b8_cons bqu379 (b8_cons bse384 (b8_cons bse389 (b8_cons bse395 (b8_cons (by decide) (b8_cons (own_isl8 (own_letl i2)).1 (b8_cons (by decide) (b8_cons (by decide) (b8_cons bqu413 (b8_cons bse418 (b8_cons bse423 (b8_cons bse429 b8_nil)))))))))))))))))), Nat.le_of_ble_eq_true rfl⟩
      show Go p e below _ (T433.setTop (mkF m 575 _ [(.ref a432)]))
      refine g_aload D433 577 at_575 rfl rfl rfl ?_
      have cz434 : n0 ≤ h433.size := (Nat.le_trans (Nat.le_trans (Nat.le_trans cz427 (Keep.of_wr W431).1) E432.1) K433.1)
      have cf435 := ((((((cf403.wr W415 (Nat.le_trans (Nat.le_trans Z0 E312.1) (Nat.le_of_eq g360.symm))).wr W420 (Nat.le_trans (Nat.le_trans Z0 E312.1) (Nat.le_of_eq g360.symm))).wr W425 (Nat.le_trans (Nat.le_trans Z0 E312.1) (Nat.le_of_eq g360.symm))).wr W431 (Nat.le_trans (Nat.le_trans Z0 E312.1) (Nat.le_of_eq g360.symm))).ext E432).keep K433 (allS (Nat.le_trans (Nat.le_trans (Nat.le_trans (Nat.le_trans (Nat.le_trans (Nat.le_trans (Nat.le_trans (Nat.le_trans (Nat.le_trans (Nat.le_trans (Nat.le_trans (Nat.le_trans (Nat.le_trans (Nat.le_trans (Nat.le_trans (Nat.le_trans (Nat.le_trans (Nat.le_trans (Nat.le_trans (Nat.le_trans (Nat.le_trans Z0 E312.1) E360.1) (Keep.of_wr W361).1) (Keep.of_wr W362).1) (Keep.of_wr W363).1) (Keep.of_wr W366).1) (Keep.of_wr W367).1) (Keep.of_wr W368).1) (Keep.of_wr W381).1) (Keep.of_wr W386).1) (Keep.of_wr W391).1) (Keep.of_wr W397).1) (Keep.of_wr W398).1) (Keep.of_wr W400).1) (Keep.of_wr W401).1) (Keep.of_wr W402).1) (Keep.of_wr W415).1) (Keep.of_wr W420).1) (Keep.of_wr W425).1) (Keep.of_wr W431).1) (Nat.le_of_eq g432.symm)) all0))
      have cf436 := ((((((cf404.wr W415).wr W420).wr W425).wr W431).ext E432).keep K433)
      have cf437 := ((((((cf405.other W415 (Or.inl (Nat.ne_of_lt (Nat.lt_of_lt_of_le y1.lt (Nat.le_of_eq g360.symm))))).other W420 (Or.inl (Nat.ne_of_lt (Nat.lt_of_lt_of_le y1.lt (Nat.le_of_eq g360.symm))))).other W425 (Or.inl (Nat.ne_of_lt (Nat.lt_of_lt_of_le y1.lt (Nat.le_of_eq g360.symm))))).other W431 (Or.inl (Nat.ne_of_lt (Nat.lt_of_lt_of_le y1.lt (Nat.le_of_eq g360.symm))))).ext E432).keep K433 (ninS (Nat.ne_of_lt (Nat.lt_of_lt_of_le (Nat.lt_of_lt_of_le (Nat.lt_of_lt_of_le (Nat.lt_of_lt_of_le (Nat.lt_of_lt_of_le cf404.lt (Keep.of_wr W415).1) (Keep.of_wr W420).1) (Keep.of_wr W425).1) (Keep.of_wr W431).1) (Nat.le_of_eq g432.symm))) nin0))
      have cf438 := ((((((cf406.other W415 (Or.inl (Nat.ne_of_lt (Nat.lt_of_lt_of_le y1.lt (Nat.le_of_eq g360.symm))))).other W420 (Or.inl (Nat.ne_of_lt (Nat.lt_of_lt_of_le y1.lt (Nat.le_of_eq g360.symm))))).other W425 (Or.inl (Nat.ne_of_lt (Nat.lt_of_lt_of_le y1.lt (Nat.le_of_eq g360.symm))))).other W431 (Or.inl (Nat.ne_of_lt (Nat.lt_of_lt_of_le y1.lt (Nat.le_of_eq g360.symm))))).ext E432).keep K433 (ninS (Nat.ne_of_lt (Nat.lt_of_lt_of_le (Nat.lt_of_lt_of_le (Nat.lt_of_lt_of_le (Nat.lt_of_lt_of_le (Nat.lt_of_lt_of_le cf404.lt (Keep.of_wr W415).1) (Keep.of_wr W420).1) (Keep.of_wr W425).1) (Keep.of_wr W431).1) (Nat.le_of_eq g432.symm))) nin0))
      have cf439 := ((((((cf407.other W415 (Nat.ne_of_lt (Nat.lt_of_lt_of_le y4.lt (Nat.le_of_eq g360.symm)))).other W420 (Nat.ne_of_lt (Nat.lt_of_lt_of_le y4.lt (Nat.le_of_eq g360.symm)))).other W425 (Nat.ne_of_lt (Nat.lt_of_lt_of_le y4.lt (Nat.le_of_eq g360.symm)))).other W431 (Nat.ne_of_lt (Nat.lt_of_lt_of_le y4.lt (Nat.le_of_eq g360.symm)))).ext E432).keep K433 (ninS (Nat.ne_of_lt (Nat.lt_of_lt_of_le (Nat.lt_of_lt_of_le (Nat.lt_of_lt_of_le (Nat.lt_of_lt_of_le (Nat.lt_of_lt_of_le cf407.lt (Keep.of_wr W415).1) (Keep.of_wr W420).1) (Keep.of_wr W425).1) (Keep.of_wr W431).1) (Nat.le_of_eq g432.symm))) nin0))
      refine g_callSW D433 580 hEW (hw _ w_34) (hw _ w_35) (hw _ w_36) (hw _ w_37) (by decide) (cP2 l Z a0 hw [] a432 ny c0 (own_let i1) qu379 se384 se389 se395 (own_let i2) qu413 se418 se423 se429 (own_let iq) zc fm (own_trim [qu379, se384, se389, se395]) (own_trim [qu413, se418, se423, se429]) h433 n0 cz434 hEW cf435 CS hzc SFm rfm X433 ⟨nt, nk, cf436, cf437, cf438, cf439, y5, y6⟩ (own_letl i1) (own_letl iq) (own_letl i2) (Or.inl ⟨nqu379, own_sq nse377 oqu379, nse384, nse389, nse395, rfl⟩) (Or.inl ⟨nqu413, own_sq nse411 oqu413, nse418, nse423, nse429, rfl⟩)) rfl [(.ref a432), (.ref ny)] rfl (lenOf pd_27 rfl) rfl 0 (Nat.le_of_eq rfl) (by decide) (by decide) (by decide) (by decide) at_577 rfl ?_
      intro v440 s440 T440 h440 L440 q440 SF440 D440
      obtain ⟨w440, rfl, N440, E440, R440⟩ := q440
      have NF440 := Fr.app NF433 N440
      rcases hm1 with ⟨rfl, Phm1⟩ | ⟨rfl, Phm1⟩
      · rw [if_pos Phm1] at R440
        obtain ⟨y440, rfl, X440⟩ := R440
        show Go p e below _ (T440.setTop (mkF m 580 _ [(.ref y440)]))
        refine g_astore D440 582 #[.val (.long i0), .second, .val (.long i1_), .second, .val (.int sel), .val (.int sh), .val (.int md1), .val (.int md2), .val (.int i1), .val (.int i2), .val (.int iq), .val (.int eb), .val (.ref ny), .val (.int c0), .val (.int (1 : Int32)), .val (.int m2), .val (.ref a360), .val (.ref y440), .unset] at_580 rfl rfl rfl ?_
        refine g_iload D440 584 at_582 rfl rfl ?_
        refine g_ifN D440 587 at_584 (by decide) rfl ?_
        refine g_iload D440 589 at_587 rfl rfl ?_
        refine g_ifN D440 592 at_589 (teq za0).2 rfl ?_
        refine g_aload D440 594 at_592 rfl rfl rfl ?_
        refine g_aload D440 596 at_594 rfl rfl rfl ?_
        refine g_bipush D440 598 (6 : Int32) at_596 rfl rfl ?_
        have cf441 := (((V431.ext E432).keep K433 (ninS (Nat.ne_of_lt (Nat.lt_of_lt_of_le V431.lt (Nat.le_of_eq g432.symm))) nin0)).ext E440)
        refine g_callSp D440 601 (hw _ w_183) (hw _ w_184) (hw _ w_2) (hw _ w_185) (by decide) ((cTrd l Z a0 hw [] y440 a360 k360 [(.int c0), (.int (59 : Int32)), (.int (32 : Int32)), (.int (own_let i1)), (.int (9 : Int32)), (.int (61 : Int32)), (.int qu379), (.int se384), (.int se389), (.int se395), (.int (59 : Int32)), (.int (own_let i2)), (.int (32 : Int32)), (.int (61 : Int32)), (.int qu413), (.int se418), (.int se423), (.int se429)] 6 qu379 se384 se389 se395 zc fm h440 n0 (Nat.le_trans cz434 E440.1) (cf435.ext E440) CS hzc SFm rfm X440 cf441 (by decide) rfl rfl rfl rfl).back D440 0 (hw _ w_185) (hw _ w_2) (by decide) (by decide)) rfl [(.ref y440), (.ref a360), (.int (6 : Int32))] rfl (lenOf pd_30 rfl) rfl (Nat.le_of_eq rfl) (by decide) (by decide) at_598 rfl ?_
        intro v442 T442 q442 D442
        subst q442
        show Go p e below _ (T442.setTop (mkF m 601 _ [(.int (1 : Int32))]))
        exact r_Nw D442 hEW hret (by simp) hlk at_601 ⟨own_r1, NF440⟩ (by decide) (by decide)
      · rw [if_neg Phm1] at R440
        rcases hm2 with ⟨rfl, Phm2⟩ | ⟨rfl, Phm2⟩
        · rw [if_pos Phm2] at R440
          obtain ⟨y440, rfl, X440⟩ := R440
          show Go p e below _ (T440.setTop (mkF m 580 _ [(.ref y440)]))
          refine g_astore D440 582 #[.val (.long i0), .second, .val (.long i1_), .second, .val (.int sel), .val (.int sh), .val (.int md1), .val (.int md2), .val (.int i1), .val (.int i2), .val (.int iq), .val (.int eb), .val (.ref ny), .val (.int c0), .val (.int (0 : Int32)), .val (.int (1 : Int32)), .val (.ref a360), .val (.ref y440), .unset] at_580 rfl rfl rfl ?_
          refine g_iload D440 584 at_582 rfl rfl ?_
          refine g_ifY D440 614 at_584 (by decide) (by decide) (by decide) ?_
          refine g_iload D440 616 at_614 rfl rfl ?_
          refine g_ifN D440 619 at_616 (by decide) rfl ?_
          refine g_iload D440 621 at_619 rfl rfl ?_
          refine g_ifN D440 624 at_621 (teq zb0).2 rfl ?_
          refine g_aload D440 626 at_624 rfl rfl rfl ?_
          refine g_aload D440 628 at_626 rfl rfl rfl ?_
          refine g_bipush D440 630 (14 : Int32) at_628 rfl rfl ?_
          have cf443 := (((V431.ext E432).keep K433 (ninS (Nat.ne_of_lt (Nat.lt_of_lt_of_le V431.lt (Nat.le_of_eq g432.symm))) nin0)).ext E440)
          refine g_callSp D440 633 (hw _ w_183) (hw _ w_184) (hw _ w_2) (hw _ w_185) (by decide) ((cTrd l Z a0 hw [] y440 a360 k360 [(.int c0), (.int (59 : Int32)), (.int (32 : Int32)), (.int (own_let i1)), (.int (9 : Int32)), (.int (61 : Int32)), (.int qu379), (.int se384), (.int se389), (.int se395), (.int (59 : Int32)), (.int (own_let i2)), (.int (32 : Int32)), (.int (61 : Int32)), (.int qu413), (.int se418), (.int se423), (.int se429)] 14 qu413 se418 se423 se429 zc fm h440 n0 (Nat.le_trans cz434 E440.1) (cf435.ext E440) CS hzc SFm rfm X440 cf443 (by decide) rfl rfl rfl rfl).back D440 0 (hw _ w_185) (hw _ w_2) (by decide) (by decide)) rfl [(.ref y440), (.ref a360), (.int (14 : Int32))] rfl (lenOf pd_30 rfl) rfl (Nat.le_of_eq rfl) (by decide) (by decide) at_630 rfl ?_
          intro v444 T444 q444 D444
          subst q444
          show Go p e below _ (T444.setTop (mkF m 633 _ [(.int (1 : Int32))]))
          exact r_Nw D444 hEW hret (by simp) hlk at_633 ⟨own_r1, NF440⟩ (by decide) (by decide)
        · rw [if_neg Phm2] at R440
          obtain rfl := R440
          show Go p e below _ (T440.setTop (mkF m 580 _ [.null]))
          refine g_astore D440 582 #[.val (.long i0), .second, .val (.long i1_), .second, .val (.int sel), .val (.int sh), .val (.int md1), .val (.int md2), .val (.int i1), .val (.int i2), .val (.int iq), .val (.int eb), .val (.ref ny), .val (.int c0), .val (.int (0 : Int32)), .val (.int (0 : Int32)), .val (.ref a360), .val .null, .unset] at_580 rfl rfl rfl ?_
          refine g_iload D440 584 at_582 rfl rfl ?_
          refine g_ifY D440 614 at_584 (by decide) (by decide) (by decide) ?_
          refine g_iload D440 616 at_614 rfl rfl ?_
          refine g_ifY D440 664 at_616 (by decide) (by decide) (by decide) ?_
          refine g_aload D440 666 at_664 rfl rfl rfl ?_
          refine g_nnN D440 669 at_666 rfl ?_
          refine g_iconst D440 670 (1 : Int32) at_669 rfl rfl ?_
          refine g_goto D440 674 at_670 (by decide) (by decide) ?_
          exact r_Nw D440 hEW hret (by simp) hlk at_674 ⟨own_r1, NF440⟩ (by decide) (by decide)
    refine g_ifY D402 509 at_448 (feq zb0).2 (by decide) (by decide) ?_
    refine g_aload D402 511 at_509 rfl rfl rfl ?_
    refine g_bipush D402 513 (14 : Int32) at_511 rfl rfl ?_
    refine g_bipush D402 515 (34 : Int32) at_513 rfl rfl ?_
    refine g_castore D402 516 V402 ⟨by decide, by decide⟩ 14 (by decide) (Nat.le_of_ble_eq_true rfl) (fun _ W => D402.iv.wr (Safe.arv D402.wm.alike V402 (by decide)) W) at_515 rfl ?_
    intro T445 h445 W445 V445 D445
    rw [nar_c (by decide)] at V445
    replace V445 : Arv Z h445 a360 k360 .char (18 : Int32) [(.int c0), (.int (59 : Int32)), (.int (32 : Int32)), (.int (own_let i1)), (.int (9 : Int32)), (.int (61 : Int32)), (.int qu379), (.int se384), (.int se389), (.int se395), (.int (59 : Int32)), (.int (own_let i2)), (.int (32 : Int32)), (.int (61 : Int32)), (.int (34 : Int32)), (.int (0 : Int32)), (.int (0 : Int32)), (.int (0 : Int32))] (.int (0 : Int32)) := V445
    have N445 := Fr.snoc D445.st N402 (Nat.le_trans (Nat.le_trans Z0 E312.1) (Nat.le_of_eq g360.symm))
    refine g_aload D445 518 at_516 rfl rfl rfl ?_
    refine g_bipush D445 520 (15 : Int32) at_518 rfl rfl ?_
    refine g_lloadN D445 521 at_520 rfl rfl ?_
    refine g_iconst D445 522 (1 : Int32) at_521 rfl rfl ?_
    refine g_callSp D445 525 (hw _ w_30) (hw _ w_31) (hw _ w_2) (hw _ w_32) (by decide) ((cCh l Z a0 hw [] _ _ h445 n0 (Nat.le_trans cz408 (Keep.of_wr W445).1)).back D445 2 (hw _ w_32) (hw _ w_2) (by decide) (by decide)) rfl [(.long i1_), (.int (1 : Int32))] rfl (lenOf pd_26 rfl) rfl (Nat.le_of_eq rfl) (by decide) (by decide) at_522 rfl ?_
    intro v447 T447 q447 D447
    obtain ⟨ch446, rfl, bch446⟩ := q447
    show Go p e below _ (T447.setTop (mkF m 525 _ [(.int ch446), (.int (15 : Int32)), (.ref a360)]))
    refine g_callSp D447 528 (hw _ w_39) (hw _ w_40) (hw _ w_2) (hw _ w_41) (by decide) ((cQuo l Z a0 hw [] ch446 h445 n0 (Nat.le_trans cz408 (Keep.of_wr W445).1) bch446).back D447 2 (hw _ w_41) (hw _ w_2) (by decide) (by decide)) rfl [(.int ch446)] rfl (lenOf pd_29 rfl) rfl (Nat.le_of_eq rfl) (by decide) (by decide) at_525 rfl ?_
    intro v449 T449 q449 D449
    obtain ⟨qu448, rfl, bqu448, nqu448, oqu448⟩ := q449
    show Go p e below _ (T449.setTop (mkF m 528 _ [(.int qu448), (.int (15 : Int32)), (.ref a360)]))
    refine g_castore D449 529 V445 ⟨by decide, by decide⟩ 15 (by decide) (Nat.le_of_ble_eq_true rfl) (fun _ W => D449.iv.wr (Safe.arv D449.wm.alike V445 (by decide)) W) at_528 rfl ?_
    intro T450 h450 W450 V450 D450
    rw [nar_c bqu448] at V450
    replace V450 : Arv Z h450 a360 k360 .char (18 : Int32) [(.int c0), (.int (59 : Int32)), (.int (32 : Int32)), (.int (own_let i1)), (.int (9 : Int32)), (.int (61 : Int32)), (.int qu379), (.int se384), (.int se389), (.int se395), (.int (59 : Int32)), (.int (own_let i2)), (.int (32 : Int32)), (.int (61 : Int32)), (.int (34 : Int32)), (.int qu448), (.int (0 : Int32)), (.int (0 : Int32))] (.int (0 : Int32)) := V450
    have N450 := Fr.snoc D450.st N445 (Nat.le_trans (Nat.le_trans Z0 E312.1) (Nat.le_of_eq g360.symm))
    refine g_aload D450 531 at_529 rfl rfl rfl ?_
    refine g_bipush D450 533 (16 : Int32) at_531 rfl rfl ?_
    refine g_lloadN D450 534 at_533 rfl rfl ?_
    refine g_iconst D450 535 (2 : Int32) at_534 rfl rfl ?_
    refine g_callSp D450 538 (hw _ w_30) (hw _ w_31) (hw _ w_2) (hw _ w_32) (by decide) ((cCh l Z a0 hw [] _ _ h450 n0 (Nat.le_trans (Nat.le_trans cz408 (Keep.of_wr W445).1) (Keep.of_wr W450).1)).back D450 2 (hw _ w_32) (hw _ w_2) (by decide) (by decide)) rfl [(.long i1_), (.int (2 : Int32))] rfl (lenOf pd_26 rfl) rfl (Nat.le_of_eq rfl) (by decide) (by decide) at_535 rfl ?_
    intro v452 T452 q452 D452
    obtain ⟨ch451, rfl, bch451⟩ := q452
    show Go p e below _ (T452.setTop (mkF m 538 _ [(.int ch451), (.int (16 : Int32)), (.ref a360)]))
    refine g_callSp D452 541 (hw _ w_39) (hw _ w_40) (hw _ w_2) (hw _ w_41) (by decide) ((cQuo l Z a0 hw [] ch451 h450 n0 (Nat.le_trans (Nat.le_trans cz408 (Keep.of_wr W445).1) (Keep.of_wr W450).1) bch451).back D452 2 (hw _ w_41) (hw _ w_2) (by decide) (by decide)) rfl [(.int ch451)] rfl (lenOf pd_29 rfl) rfl (Nat.le_of_eq rfl) (by decide) (by decide) at_538 rfl ?_
    intro v454 T454 q454 D454
    obtain ⟨qu453, rfl, bqu453, nqu453, oqu453⟩ := q454
    show Go p e below _ (T454.setTop (mkF m 541 _ [(.int qu453), (.int (16 : Int32)), (.ref a360)]))
    refine g_castore D454 542 V450 ⟨by decide, by decide⟩ 16 (by decide) (Nat.le_of_ble_eq_true rfl) (fun _ W => D454.iv.wr (Safe.arv D454.wm.alike V450 (by decide)) W) at_541 rfl ?_
    intro T455 h455 W455 V455 D455
    rw [nar_c bqu453] at V455
    replace V455 : Arv Z h455 a360 k360 .char (18 : Int32) [(.int c0), (.int (59 : Int32)), (.int (32 : Int32)), (.int (own_let i1)), (.int (9 : Int32)), (.int (61 : Int32)), (.int qu379), (.int se384), (.int se389), (.int se395), (.int (59 : Int32)), (.int (own_let i2)), (.int (32 : Int32)), (.int (61 : Int32)), (.int (34 : Int32)), (.int qu448), (.int qu453), (.int (0 : Int32))] (.int (0 : Int32)) := V455
    have N455 := Fr.snoc D455.st N450 (Nat.le_trans (Nat.le_trans Z0 E312.1) (Nat.le_of_eq g360.symm))
    refine g_aload D455 544 at_542 rfl rfl rfl ?_
    refine g_bipush D455 546 (17 : Int32) at_544 rfl rfl ?_
    refine g_iload D455 548 at_546 rfl rfl ?_
    refine g_iconst D455 549 (1 : Int32) at_548 rfl rfl ?_
    have cf456 := (((cf403.wr W445 (Nat.le_trans (Nat.le_trans Z0 E312.1) (Nat.le_of_eq g360.symm))).wr W450 (Nat.le_trans (Nat.le_trans Z0 E312.1) (Nat.le_of_eq g360.symm))).wr W455 (Nat.le_trans (Nat.le_trans Z0 E312.1) (Nat.le_of_eq g360.symm)))
    have cf457 := (((cf404.wr W445).wr W450).wr W455)
    have cf458 := (((cf405.other W445 (Or.inl (Nat.ne_of_lt (Nat.lt_of_lt_of_le y1.lt (Nat.le_of_eq g360.symm))))).other W450 (Or.inl (Nat.ne_of_lt (Nat.lt_of_lt_of_le y1.lt (Nat.le_of_eq g360.symm))))).other W455 (Or.inl (Nat.ne_of_lt (Nat.lt_of_lt_of_le y1.lt (Nat.le_of_eq g360.symm)))))
    have cf459 := (((cf406.other W445 (Or.inl (Nat.ne_of_lt (Nat.lt_of_lt_of_le y1.lt (Nat.le_of_eq g360.symm))))).other W450 (Or.inl (Nat.ne_of_lt (Nat.lt_of_lt_of_le y1.lt (Nat.le_of_eq g360.symm))))).other W455 (Or.inl (Nat.ne_of_lt (Nat.lt_of_lt_of_le y1.lt (Nat.le_of_eq g360.symm)))))
    have cf460 := (((cf407.other W445 (Nat.ne_of_lt (Nat.lt_of_lt_of_le y4.lt (Nat.le_of_eq g360.symm)))).other W450 (Nat.ne_of_lt (Nat.lt_of_lt_of_le y4.lt (Nat.le_of_eq g360.symm)))).other W455 (Nat.ne_of_lt (Nat.lt_of_lt_of_le y4.lt (Nat.le_of_eq g360.symm))))
    have cz461 : n0 ≤ h455.size := (Nat.le_trans (Nat.le_trans (Nat.le_trans cz408 (Keep.of_wr W445).1) (Keep.of_wr W450).1) (Keep.of_wr W455).1)
    by_cases zb1 : md2 = (1 : Int32)
    · refine g_icmpN D455 552 at_549 (teq zb1).2 rfl ?_
      refine g_bipush D455 554 (34 : Int32) at_552 rfl rfl ?_
      refine g_goto D455 565 at_554 (by decide) (by decide) ?_
      refine g_castore D455 566 V455 ⟨by decide, by decide⟩ 17 (by decide) (Nat.le_of_ble_eq_true rfl) (fun _ W => D455.iv.wr (Safe.arv D455.wm.alike V455 (by decide)) W) at_565 rfl ?_
      intro T462 h462 W462 V462 D462
      rw [nar_c (by decide)] at V462
      replace V462 : Arv Z h462 a360 k360 .char (18 : Int32) [(.int c0), (.int (59 : Int32)), (.int (32 : Int32)), (.int (own_let i1)), (.int (9 : Int32)), (.int (61 : Int32)), (.int qu379), (.int se384), (.int se389), (.int se395), (.int (59 : Int32)), (.int (own_let i2)), (.int (32 : Int32)), (.int (61 : Int32)), (.int (34 : Int32)), (.int qu448), (.int qu453), (.int (34 : Int32))] (.int (0 : Int32)) := V462
      have N462 := Fr.snoc D462.st N455 (Nat.le_trans (Nat.le_trans Z0 E312.1) (Nat.le_of_eq g360.symm))
      refine g_newO D462 569 (hw _ w_45) (hw _ w_14) (hw _ w_6) at_566 (by decide) (by decide) (fun _ E => D462.iv.ext E) rfl ?_
      intro T463 h463 a463 g463 E463 A463 N463 D463
      refine g_dup D463 570 at_569 rfl rfl ?_
      refine g_aload D463 572 at_570 rfl rfl rfl ?_
      refine g_callN D463 575 rfl (hw _ w_46) (hw _ w_47) (hw _ w_48) (by decide) (StrChars.Road.backV (W := 1) D463.wm (fun d hd => hw d (wbv d hd)) (kI := 4) (hw _ w_14) (cs := [c0, (59 : Int32), (32 : Int32), (own_let i1), (9 : Int32), (61 : Int32), qu379, se384, se389, se395, (59 : Int32), (own_let i2), (32 : Int32), (61 : Int32), (34 : Int32), qu448, qu453, (34 : Int32)]) (bs := ([c0, (59 : Int32), (32 : Int32), (own_let i1), (9 : Int32), (61 : Int32), qu379, se384, se389, se395, (59 : Int32), (own_let i2), (32 : Int32), (61 : Int32), (34 : Int32), qu448, qu453, (34 : Int32)].map StrChars.lo8)) (n := 18) (n0 := n0) (Nat.le_trans (Nat.le_trans cz461 (Keep.of_wr W462).1) (Nat.le_of_eq g463.symm)) (Nat.le_trans (Nat.le_trans cz461 (Keep.of_wr W462).1) E463.1) A463 (N463 (Or.inr (hw _ w_27)) (ty := (.array .byte)) (by decide)) (N463 (Or.inr (hw _ w_29)) (ty := .byte) (by decide)) (V462.ext E463) (CS.ext ((cf456.wr W462 (Nat.le_trans (Nat.le_trans Z0 E312.1) (Nat.le_of_eq g360.symm))).ext E463).2) hzc rfl rfl (by decide) (by decide) (b8_cons bc0 (b8_cons (by decide) (b8_cons (by decide) (b8_cons (own_isl8 (own_letl i1)).1 (b8_cons (by decide) (b8_cons (by decide) (b8_cons bqu379 (b8_cons bse384 (b8_cons bse389 (b8_cons bse395 (b8_cons (by decide) (b8_cons (own_isl8 (own_letl i2)).1 (b8_cons (by decide) (b8_cons (by decide) (b8_cons (by decide) (b8_cons bqu448 (b8_cons bqu453 (b8_cons (by decide) b8_nil)))))))))))))))))) rfl (by decide) (by decide)) rfl [(.ref a360)] rfl (lenOf pd_28 rfl) rfl (Nat.le_of_eq rfl) (by decide) (by decide) (fun _ _ _ q => D463.iv.keep (sfS (safe_null D463.wm.alike A463 (N463 (Or.inr (hw _ w_27)) (ty := (.array .byte)) (by decide))) sf0) q.2.2.1) at_572 rfl ?_
      intro v464 T464 h464 L464 q464 D464
      obtain ⟨rfl, N464, K464, A464, C464, t464, kb464, -, -, -, Vf464, Va464⟩ := q464
      have NF464 := Fr.app N462 N464
      have X464 : LS Z h464 a463 [c0, (59 : Int32), (32 : Int32), (own_let i1), (9 : Int32), (61 : Int32), qu379, se384, se389, se395, (59 : Int32), (own_let i2), (32 : Int32), (61 : Int32), (34 : Int32), qu448, qu453, (34 : Int32)] := ⟨t464, kb464, A464, C464, Vf464, Va464, (b8_cons bc0 (b8_cons (by decide) (b8_cons (by decide) (b8_cons (own_isl8 (own_letl i1)).1 (b8_cons (by decide) (b8_cons (by decide) (b8_cons bqu379 (b8_cons bse384 (b8_cons bse389 (b8_cons bse395 (b8_cons (by decide) (b8_cons (own_isl8 (own_letl i2)).1 (b8_cons (by decide) (b8_cons (by decide) (b8_cons (by decide) (b8_cons bqu448 (b8_cons bqu453 (b8_cons (by decide) b8_nil)))))))))))))))))), Nat.le_of_ble_eq_true rfl⟩
      show Go p e below _ (T464.setTop (mkF m 575 _ [(.ref a463)]))
      refine g_aload D464 577 at_575 rfl rfl rfl ?_
      have cz465 : n0 ≤ h464.size := (Nat.le_trans (Nat.le_trans (Nat.le_trans cz461 (Keep.of_wr W462).1) E463.1) K464.1)
      have cf466 := (((cf456.wr W462 (Nat.le_trans (Nat.le_trans Z0 E312.1) (Nat.le_of_eq g360.symm))).ext E463).keep K464 (allS (Nat.le_trans (Nat.le_trans (Nat.le_trans (Nat.le_trans (Nat.le_trans (Nat.le_trans (Nat.le_trans (Nat.le_trans (Nat.le_trans (Nat.le_trans (Nat.le_trans (Nat.le_trans (Nat.le_trans (Nat.le_trans (Nat.le_trans (Nat.le_trans (Nat.le_trans (Nat.le_trans (Nat.le_trans (Nat.le_trans (Nat.le_trans Z0 E312.1) E360.1) (Keep.of_wr W361).1) (Keep.of_wr W362).1) (Keep.of_wr W363).1) (Keep.of_wr W366).1) (Keep.of_wr W367).1) (Keep.of_wr W368).1) (Keep.of_wr W381).1) (Keep.of_wr W386).1) (Keep.of_wr W391).1) (Keep.of_wr W397).1) (Keep.of_wr W398).1) (Keep.of_wr W400).1) (Keep.of_wr W401).1) (Keep.of_wr W402).1) (Keep.of_wr W445).1) (Keep.of_wr W450).1) (Keep.of_wr W455).1) (Keep.of_wr W462).1) (Nat.le_of_eq g463.symm)) all0))
      have cf467 := (((cf457.wr W462).ext E463).keep K464)
      have cf468 := (((cf458.other W462 (Or.inl (Nat.ne_of_lt (Nat.lt_of_lt_of_le y1.lt (Nat.le_of_eq g360.symm))))).ext E463).keep K464 (ninS (Nat.ne_of_lt (Nat.lt_of_lt_of_le (Nat.lt_of_lt_of_le cf457.lt (Keep.of_wr W462).1) (Nat.le_of_eq g463.symm))) nin0))
      have cf469 := (((cf459.other W462 (Or.inl (Nat.ne_of_lt (Nat.lt_of_lt_of_le y1.lt (Nat.le_of_eq g360.symm))))).ext E463).keep K464 (ninS (Nat.ne_of_lt (Nat.lt_of_lt_of_le (Nat.lt_of_lt_of_le cf457.lt (Keep.of_wr W462).1) (Nat.le_of_eq g463.symm))) nin0))
      have cf470 := (((cf460.other W462 (Nat.ne_of_lt (Nat.lt_of_lt_of_le y4.lt (Nat.le_of_eq g360.symm)))).ext E463).keep K464 (ninS (Nat.ne_of_lt (Nat.lt_of_lt_of_le (Nat.lt_of_lt_of_le cf460.lt (Keep.of_wr W462).1) (Nat.le_of_eq g463.symm))) nin0))
      refine g_callSW D464 580 hEW (hw _ w_34) (hw _ w_35) (hw _ w_36) (hw _ w_37) (by decide) (cP2 l Z a0 hw [] a463 ny c0 (own_let i1) qu379 se384 se389 se395 (own_let i2) (34 : Int32) qu448 qu453 (34 : Int32) (own_let iq) zc fm (own_trim [qu379, se384, se389, se395]) [qu448, qu453] h464 n0 cz465 hEW cf466 CS hzc SFm rfm X464 ⟨nt, nk, cf467, cf468, cf469, cf470, y5, y6⟩ (own_letl i1) (own_letl iq) (own_letl i2) (Or.inl ⟨nqu379, own_sq nse377 oqu379, nse384, nse389, nse395, rfl⟩) (Or.inr (Or.inl ⟨rfl, rfl, nqu448, nqu453, rfl⟩))) rfl [(.ref a463), (.ref ny)] rfl (lenOf pd_27 rfl) rfl 0 (Nat.le_of_eq rfl) (by decide) (by decide) (by decide) (by decide) at_577 rfl ?_
      intro v471 s471 T471 h471 L471 q471 SF471 D471
      obtain ⟨w471, rfl, N471, E471, R471⟩ := q471
      have NF471 := Fr.app NF464 N471
      rcases hm1 with ⟨rfl, Phm1⟩ | ⟨rfl, Phm1⟩
      · rw [if_pos Phm1] at R471
        obtain ⟨y471, rfl, X471⟩ := R471
        show Go p e below _ (T471.setTop (mkF m 580 _ [(.ref y471)]))
        refine g_astore D471 582 #[.val (.long i0), .second, .val (.long i1_), .second, .val (.int sel), .val (.int sh), .val (.int md1), .val (.int md2), .val (.int i1), .val (.int i2), .val (.int iq), .val (.int eb), .val (.ref ny), .val (.int c0), .val (.int (1 : Int32)), .val (.int m2), .val (.ref a360), .val (.ref y471), .unset] at_580 rfl rfl rfl ?_
        refine g_iload D471 584 at_582 rfl rfl ?_
        refine g_ifN D471 587 at_584 (by decide) rfl ?_
        refine g_iload D471 589 at_587 rfl rfl ?_
        refine g_ifN D471 592 at_589 (teq za0).2 rfl ?_
        refine g_aload D471 594 at_592 rfl rfl rfl ?_
        refine g_aload D471 596 at_594 rfl rfl rfl ?_
        refine g_bipush D471 598 (6 : Int32) at_596 rfl rfl ?_
        have cf472 := (((V462.ext E463).keep K464 (ninS (Nat.ne_of_lt (Nat.lt_of_lt_of_le V462.lt (Nat.le_of_eq g463.symm))) nin0)).ext E471)
        refine g_callSp D471 601 (hw _ w_183) (hw _ w_184) (hw _ w_2) (hw _ w_185) (by decide) ((cTrd l Z a0 hw [] y471 a360 k360 [(.int c0), (.int (59 : Int32)), (.int (32 : Int32)), (.int (own_let i1)), (.int (9 : Int32)), (.int (61 : Int32)), (.int qu379), (.int se384), (.int se389), (.int se395), (.int (59 : Int32)), (.int (own_let i2)), (.int (32 : Int32)), (.int (61 : Int32)), (.int (34 : Int32)), (.int qu448), (.int qu453), (.int (34 : Int32))] 6 qu379 se384 se389 se395 zc fm h471 n0 (Nat.le_trans cz465 E471.1) (cf466.ext E471) CS hzc SFm rfm X471 cf472 (by decide) rfl rfl rfl rfl).back D471 0 (hw _ w_185) (hw _ w_2) (by decide) (by decide)) rfl [(.ref y471), (.ref a360), (.int (6 : Int32))] rfl (lenOf pd_30 rfl) rfl (Nat.le_of_eq rfl) (by decide) (by decide) at_598 rfl ?_
        intro v473 T473 q473 D473
        subst q473
        show Go p e below _ (T473.setTop (mkF m 601 _ [(.int (1 : Int32))]))
        exact r_Nw D473 hEW hret (by simp) hlk at_601 ⟨own_r1, NF471⟩ (by decide) (by decide)
      · rw [if_neg Phm1] at R471
        rcases hm2 with ⟨rfl, Phm2⟩ | ⟨rfl, Phm2⟩
        · rw [if_pos Phm2] at R471
          obtain ⟨y471, rfl, X471⟩ := R471
          show Go p e below _ (T471.setTop (mkF m 580 _ [(.ref y471)]))
          refine g_astore D471 582 #[.val (.long i0), .second, .val (.long i1_), .second, .val (.int sel), .val (.int sh), .val (.int md1), .val (.int md2), .val (.int i1), .val (.int i2), .val (.int iq), .val (.int eb), .val (.ref ny), .val (.int c0), .val (.int (0 : Int32)), .val (.int (1 : Int32)), .val (.ref a360), .val (.ref y471), .unset] at_580 rfl rfl rfl ?_
          refine g_iload D471 584 at_582 rfl rfl ?_
          refine g_ifY D471 614 at_584 (by decide) (by decide) (by decide) ?_
          refine g_iload D471 616 at_614 rfl rfl ?_
          refine g_ifN D471 619 at_616 (by decide) rfl ?_
          refine g_iload D471 621 at_619 rfl rfl ?_
          refine g_ifY D471 634 at_621 (feq zb0).2 (by decide) (by decide) ?_
          refine g_iload D471 636 at_634 rfl rfl ?_
          refine g_iconst D471 637 (1 : Int32) at_636 rfl rfl ?_
          refine g_icmpN D471 640 at_637 (teq zb1).2 rfl ?_
          refine g_aload D471 642 at_640 rfl rfl rfl ?_
          refine g_aload D471 644 at_642 rfl rfl rfl ?_
          refine g_bipush D471 646 (15 : Int32) at_644 rfl rfl ?_
          refine g_bipush D471 648 (17 : Int32) at_646 rfl rfl ?_
          have cf474 := (((V462.ext E463).keep K464 (ninS (Nat.ne_of_lt (Nat.lt_of_lt_of_le V462.lt (Nat.le_of_eq g463.symm))) nin0)).ext E471)
          refine g_callSp D471 651 (hw _ w_178) (hw _ w_179) (hw _ w_2) (hw _ w_180) (by decide) ((cSame l Z a0 hw [] y471 a360 k360 [(.int c0), (.int (59 : Int32)), (.int (32 : Int32)), (.int (own_let i1)), (.int (9 : Int32)), (.int (61 : Int32)), (.int qu379), (.int se384), (.int se389), (.int se395), (.int (59 : Int32)), (.int (own_let i2)), (.int (32 : Int32)), (.int (61 : Int32)), (.int (34 : Int32)), (.int qu448), (.int qu453), (.int (34 : Int32))] [qu448, qu453] 15 2 zc fm h471 n0 (Nat.le_trans cz465 E471.1) (cf466.ext E471) CS hzc SFm rfm X471 rfl (by decide) cf474 (by decide) (own_blS (own_blS own_bl0 rfl) rfl)).back D471 0 (hw _ w_180) (hw _ w_2) (by decide) (by decide)) rfl [(.ref y471), (.ref a360), (.int (15 : Int32)), (.int (17 : Int32))] rfl (lenOf pd_20 rfl) rfl (Nat.le_of_eq rfl) (by decide) (by decide) at_648 rfl ?_
          intro v475 T475 q475 D475
          subst q475
          show Go p e below _ (T475.setTop (mkF m 651 _ [(.int (1 : Int32))]))
          exact r_Nw D475 hEW hret (by simp) hlk at_651 ⟨own_r1, NF471⟩ (by decide) (by decide)
        · rw [if_neg Phm2] at R471
          obtain rfl := R471
          show Go p e below _ (T471.setTop (mkF m 580 _ [.null]))
          refine g_astore D471 582 #[.val (.long i0), .second, .val (.long i1_), .second, .val (.int sel), .val (.int sh), .val (.int md1), .val (.int md2), .val (.int i1), .val (.int i2), .val (.int iq), .val (.int eb), .val (.ref ny), .val (.int c0), .val (.int (0 : Int32)), .val (.int (0 : Int32)), .val (.ref a360), .val .null, .unset] at_580 rfl rfl rfl ?_
          refine g_iload D471 584 at_582 rfl rfl ?_
          refine g_ifY D471 614 at_584 (by decide) (by decide) (by decide) ?_
          refine g_iload D471 616 at_614 rfl rfl ?_
          refine g_ifY D471 664 at_616 (by decide) (by decide) (by decide) ?_
          refine g_aload D471 666 at_664 rfl rfl rfl ?_
          refine g_nnN D471 669 at_666 rfl ?_
          refine g_iconst D471 670 (1 : Int32) at_669 rfl rfl ?_
          refine g_goto D471 674 at_670 (by decide) (by decide) ?_
          exact r_Nw D471 hEW hret (by simp) hlk at_674 ⟨own_r1, NF471⟩ (by decide) (by decide)
    refine g_icmpY D455 557 at_549 (feq zb1).2 (by decide) (by decide) ?_
    refine g_lloadN D455 558 at_557 rfl rfl ?_
    refine g_iconst D455 559 (3 : Int32) at_558 rfl rfl ?_
    refine g_callSp D455 562 (hw _ w_30) (hw _ w_31) (hw _ w_2) (hw _ w_32) (by decide) ((cCh l Z a0 hw [] _ _ h455 n0 cz461).back D455 2 (hw _ w_32) (hw _ w_2) (by decide) (by decide)) rfl [(.long i1_), (.int (3 : Int32))] rfl (lenOf pd_26 rfl) rfl (Nat.le_of_eq rfl) (by decide) (by decide) at_559 rfl ?_
    intro v477 T477 q477 D477
    obtain ⟨ch476, rfl, bch476⟩ := q477
    show Go p e below _ (T477.setTop (mkF m 562 _ [(.int ch476), (.int (17 : Int32)), (.ref a360)]))
    refine g_callSp D477 565 (hw _ w_39) (hw _ w_40) (hw _ w_2) (hw _ w_41) (by decide) ((cQuo l Z a0 hw [] ch476 h455 n0 cz461 bch476).back D477 2 (hw _ w_41) (hw _ w_2) (by decide) (by decide)) rfl [(.int ch476)] rfl (lenOf pd_29 rfl) rfl (Nat.le_of_eq rfl) (by decide) (by decide) at_562 rfl ?_
    intro v479 T479 q479 D479
    obtain ⟨qu478, rfl, bqu478, nqu478, oqu478⟩ := q479
    show Go p e below _ (T479.setTop (mkF m 565 _ [(.int qu478), (.int (17 : Int32)), (.ref a360)]))
    refine g_castore D479 566 V455 ⟨by decide, by decide⟩ 17 (by decide) (Nat.le_of_ble_eq_true rfl) (fun _ W => D479.iv.wr (Safe.arv D479.wm.alike V455 (by decide)) W) at_565 rfl ?_
    intro T480 h480 W480 V480 D480
    rw [nar_c bqu478] at V480
    replace V480 : Arv Z h480 a360 k360 .char (18 : Int32) [(.int c0), (.int (59 : Int32)), (.int (32 : Int32)), (.int (own_let i1)), (.int (9 : Int32)), (.int (61 : Int32)), (.int qu379), (.int se384), (.int se389), (.int se395), (.int (59 : Int32)), (.int (own_let i2)), (.int (32 : Int32)), (.int (61 : Int32)), (.int (34 : Int32)), (.int qu448), (.int qu453), (.int qu478)] (.int (0 : Int32)) := V480
    have N480 := Fr.snoc D480.st N455 (Nat.le_trans (Nat.le_trans Z0 E312.1) (Nat.le_of_eq g360.symm))
    refine g_newO D480 569 (hw _ w_45) (hw _ w_14) (hw _ w_6) at_566 (by decide) (by decide) (fun _ E => D480.iv.ext E) rfl ?_
    intro T481 h481 a481 g481 E481 A481 N481 D481
    refine g_dup D481 570 at_569 rfl rfl ?_
    refine g_aload D481 572 at_570 rfl rfl rfl ?_
    refine g_callN D481 575 rfl (hw _ w_46) (hw _ w_47) (hw _ w_48) (by decide) (StrChars.Road.backV (W := 1) D481.wm (fun d hd => hw d (wbv d hd)) (kI := 4) (hw _ w_14) (cs := [c0, (59 : Int32), (32 : Int32), (own_let i1), (9 : Int32), (61 : Int32), qu379, se384, se389, se395, (59 : Int32), (own_let i2), (32 : Int32), (61 : Int32), (34 : Int32), qu448, qu453, qu478]) (bs := ([c0, (59 : Int32), (32 : Int32), (own_let i1), (9 : Int32), (61 : Int32), qu379, se384, se389, se395, (59 : Int32), (own_let i2), (32 : Int32), (61 : Int32), (34 : Int32), qu448, qu453, qu478].map StrChars.lo8)) (n := 18) (n0 := n0) (Nat.le_trans (Nat.le_trans cz461 (Keep.of_wr W480).1) (Nat.le_of_eq g481.symm)) (Nat.le_trans (Nat.le_trans cz461 (Keep.of_wr W480).1) E481.1) A481 (N481 (Or.inr (hw _ w_27)) (ty := (.array .byte)) (by decide)) (N481 (Or.inr (hw _ w_29)) (ty := .byte) (by decide)) (V480.ext E481) (CS.ext ((cf456.wr W480 (Nat.le_trans (Nat.le_trans Z0 E312.1) (Nat.le_of_eq g360.symm))).ext E481).2) hzc rfl rfl (by decide) (by decide) (b8_cons bc0 (b8_cons (by decide) (b8_cons (by decide) (b8_cons (own_isl8 (own_letl i1)).1 (b8_cons (by decide) (b8_cons (by decide) (b8_cons bqu379 (b8_cons bse384 (b8_cons bse389 (b8_cons bse395 (b8_cons (by decide) (b8_cons (own_isl8 (own_letl i2)).1 (b8_cons (by decide) (b8_cons (by decide) (b8_cons (by decide) (b8_cons bqu448 (b8_cons bqu453 (b8_cons bqu478 b8_nil)))))))))))))))))) rfl (by decide) (by decide)) rfl [(.ref a360)] rfl (lenOf pd_28 rfl) rfl (Nat.le_of_eq rfl) (by decide) (by decide) (fun _ _ _ q => D481.iv.keep (sfS (safe_null D481.wm.alike A481 (N481 (Or.inr (hw _ w_27)) (ty := (.array .byte)) (by decide))) sf0) q.2.2.1) at_572 rfl ?_
    intro v482 T482 h482 L482 q482 D482
    obtain ⟨rfl, N482, K482, A482, C482, t482, kb482, -, -, -, Vf482, Va482⟩ := q482
    have NF482 := Fr.app N480 N482
    have X482 : LS Z h482 a481 [c0, (59 : Int32), (32 : Int32), (own_let i1), (9 : Int32), (61 : Int32), qu379, se384, se389, se395, (59 : Int32), (own_let i2), (32 : Int32), (61 : Int32), (34 : Int32), qu448, qu453, qu478] := ⟨t482, kb482, A482, C482, Vf482, Va482, (b8_cons bc0 (b8_cons (by decide) (b8_cons (by decide) (b8_cons (own_isl8 (own_letl i1)).1 (b8_cons (by decide) (b8_cons (by decide) (b8_cons bqu379 (b8_cons bse384 (b8_cons bse389 (b8_cons bse395 (b8_cons (by decide) (b8_cons (own_isl8 (own_letl i2)).1 (b8_cons (by decide) (b8_cons (by decide) (b8_cons (by decide) (b8_cons bqu448 (b8_cons bqu453 (b8_cons bqu478 b8_nil)))))))))))))))))), Nat.le_of_ble_eq_true rfl⟩
    show Go p e below _ (T482.setTop (mkF m 575 _ [(.ref a481)]))
    refine g_aload D482 577 at_575 rfl rfl rfl ?_
    have cz483 : n0 ≤ h482.size := (Nat.le_trans (Nat.le_trans (Nat.le_trans cz461 (Keep.of_wr W480).1) E481.1) K482.1)
    have cf484 := (((cf456.wr W480 (Nat.le_trans (Nat.le_trans Z0 E312.1) (Nat.le_of_eq g360.symm))).ext E481).keep K482 (allS (Nat.le_trans (Nat.le_trans (Nat.le_trans (Nat.le_trans (Nat.le_trans (Nat.le_trans (Nat.le_trans (Nat.le_trans (Nat.le_trans (Nat.le_trans (Nat.le_trans (Nat.le_trans (Nat.le_trans (Nat.le_trans (Nat.le_trans (Nat.le_trans (Nat.le_trans (Nat.le_trans (Nat.le_trans (Nat.le_trans (Nat.le_trans Z0 E312.1) E360.1) (Keep.of_wr W361).1) (Keep.of_wr W362).1) (Keep.of_wr W363).1) (Keep.of_wr W366).1) (Keep.of_wr W367).1) (Keep.of_wr W368).1) (Keep.of_wr W381).1) (Keep.of_wr W386).1) (Keep.of_wr W391).1) (Keep.of_wr W397).1) (Keep.of_wr W398).1) (Keep.of_wr W400).1) (Keep.of_wr W401).1) (Keep.of_wr W402).1) (Keep.of_wr W445).1) (Keep.of_wr W450).1) (Keep.of_wr W455).1) (Keep.of_wr W480).1) (Nat.le_of_eq g481.symm)) all0))
    have cf485 := (((cf457.wr W480).ext E481).keep K482)
    have cf486 := (((cf458.other W480 (Or.inl (Nat.ne_of_lt (Nat.lt_of_lt_of_le y1.lt (Nat.le_of_eq g360.symm))))).ext E481).keep K482 (ninS (Nat.ne_of_lt (Nat.lt_of_lt_of_le (Nat.lt_of_lt_of_le cf457.lt (Keep.of_wr W480).1) (Nat.le_of_eq g481.symm))) nin0))
    have cf487 := (((cf459.other W480 (Or.inl (Nat.ne_of_lt (Nat.lt_of_lt_of_le y1.lt (Nat.le_of_eq g360.symm))))).ext E481).keep K482 (ninS (Nat.ne_of_lt (Nat.lt_of_lt_of_le (Nat.lt_of_lt_of_le cf457.lt (Keep.of_wr W480).1) (Nat.le_of_eq g481.symm))) nin0))
    have cf488 := (((cf460.other W480 (Nat.ne_of_lt (Nat.lt_of_lt_of_le y4.lt (Nat.le_of_eq g360.symm)))).ext E481).keep K482 (ninS (Nat.ne_of_lt (Nat.lt_of_lt_of_le (Nat.lt_of_lt_of_le cf460.lt (Keep.of_wr W480).1) (Nat.le_of_eq g481.symm))) nin0))
    refine g_callSW D482 580 hEW (hw _ w_34) (hw _ w_35) (hw _ w_36) (hw _ w_37) (by decide) (cP2 l Z a0 hw [] a481 ny c0 (own_let i1) qu379 se384 se389 se395 (own_let i2) (34 : Int32) qu448 qu453 qu478 (own_let iq) zc fm (own_trim [qu379, se384, se389, se395]) [qu448, qu453, qu478] h482 n0 cz483 hEW cf484 CS hzc SFm rfm X482 ⟨nt, nk, cf485, cf486, cf487, cf488, y5, y6⟩ (own_letl i1) (own_letl iq) (own_letl i2) (Or.inl ⟨nqu379, own_sq nse377 oqu379, nse384, nse389, nse395, rfl⟩) (Or.inr (Or.inr ⟨rfl, nqu448, nqu453, nqu478, rfl⟩))) rfl [(.ref a481), (.ref ny)] rfl (lenOf pd_27 rfl) rfl 0 (Nat.le_of_eq rfl) (by decide) (by decide) (by decide) (by decide) at_577 rfl ?_
    intro v489 s489 T489 h489 L489 q489 SF489 D489
    obtain ⟨w489, rfl, N489, E489, R489⟩ := q489
    have NF489 := Fr.app NF482 N489
    rcases hm1 with ⟨rfl, Phm1⟩ | ⟨rfl, Phm1⟩
    · rw [if_pos Phm1] at R489
      obtain ⟨y489, rfl, X489⟩ := R489
      show Go p e below _ (T489.setTop (mkF m 580 _ [(.ref y489)]))
      refine g_astore D489 582 #[.val (.long i0), .second, .val (.long i1_), .second, .val (.int sel), .val (.int sh), .val (.int md1), .val (.int md2), .val (.int i1), .val (.int i2), .val (.int iq), .val (.int eb), .val (.ref ny), .val (.int c0), .val (.int (1 : Int32)), .val (.int m2), .val (.ref a360), .val (.ref y489), .unset] at_580 rfl rfl rfl ?_
      refine g_iload D489 584 at_582 rfl rfl ?_
      refine g_ifN D489 587 at_584 (by decide) rfl ?_
      refine g_iload D489 589 at_587 rfl rfl ?_
      refine g_ifN D489 592 at_589 (teq za0).2 rfl ?_
      refine g_aload D489 594 at_592 rfl rfl rfl ?_
      refine g_aload D489 596 at_594 rfl rfl rfl ?_
      refine g_bipush D489 598 (6 : Int32) at_596 rfl rfl ?_
      have cf490 := (((V480.ext E481).keep K482 (ninS (Nat.ne_of_lt (Nat.lt_of_lt_of_le V480.lt (Nat.le_of_eq g481.symm))) nin0)).ext E489)
      refine g_callSp D489 601 (hw _ w_183) (hw _ w_184) (hw _ w_2) (hw _ w_185) (by decide) ((cTrd l Z a0 hw [] y489 a360 k360 [(.int c0), (.int (59 : Int32)), (.int (32 : Int32)), (.int (own_let i1)), (.int (9 : Int32)), (.int (61 : Int32)), (.int qu379), (.int se384), (.int se389), (.int se395), (.int (59 : Int32)), (.int (own_let i2)), (.int (32 : Int32)), (.int (61 : Int32)), (.int (34 : Int32)), (.int qu448), (.int qu453), (.int qu478)] 6 qu379 se384 se389 se395 zc fm h489 n0 (Nat.le_trans cz483 E489.1) (cf484.ext E489) CS hzc SFm rfm X489 cf490 (by decide) rfl rfl rfl rfl).back D489 0 (hw _ w_185) (hw _ w_2) (by decide) (by decide)) rfl [(.ref y489), (.ref a360), (.int (6 : Int32))] rfl (lenOf pd_30 rfl) rfl (Nat.le_of_eq rfl) (by decide) (by decide) at_598 rfl ?_
      intro v491 T491 q491 D491
      subst q491
      show Go p e below _ (T491.setTop (mkF m 601 _ [(.int (1 : Int32))]))
      exact r_Nw D491 hEW hret (by simp) hlk at_601 ⟨own_r1, NF489⟩ (by decide) (by decide)
    · rw [if_neg Phm1] at R489
      rcases hm2 with ⟨rfl, Phm2⟩ | ⟨rfl, Phm2⟩
      · rw [if_pos Phm2] at R489
        obtain ⟨y489, rfl, X489⟩ := R489
        show Go p e below _ (T489.setTop (mkF m 580 _ [(.ref y489)]))
        refine g_astore D489 582 #[.val (.long i0), .second, .val (.long i1_), .second, .val (.int sel), .val (.int sh), .val (.int md1), .val (.int md2), .val (.int i1), .val (.int i2), .val (.int iq), .val (.int eb), .val (.ref ny), .val (.int c0), .val (.int (0 : Int32)), .val (.int (1 : Int32)), .val (.ref a360), .val (.ref y489), .unset] at_580 rfl rfl rfl ?_
        refine g_iload D489 584 at_582 rfl rfl ?_
        refine g_ifY D489 614 at_584 (by decide) (by decide) (by decide) ?_
        refine g_iload D489 616 at_614 rfl rfl ?_
        refine g_ifN D489 619 at_616 (by decide) rfl ?_
        refine g_iload D489 621 at_619 rfl rfl ?_
        refine g_ifY D489 634 at_621 (feq zb0).2 (by decide) (by decide) ?_
        refine g_iload D489 636 at_634 rfl rfl ?_
        refine g_iconst D489 637 (1 : Int32) at_636 rfl rfl ?_
        refine g_icmpY D489 652 at_637 (feq zb1).2 (by decide) (by decide) ?_
        refine g_aload D489 654 at_652 rfl rfl rfl ?_
        refine g_aload D489 656 at_654 rfl rfl rfl ?_
        refine g_bipush D489 658 (15 : Int32) at_656 rfl rfl ?_
        refine g_bipush D489 660 (18 : Int32) at_658 rfl rfl ?_
        have cf492 := (((V480.ext E481).keep K482 (ninS (Nat.ne_of_lt (Nat.lt_of_lt_of_le V480.lt (Nat.le_of_eq g481.symm))) nin0)).ext E489)
        refine g_callSp D489 663 (hw _ w_178) (hw _ w_179) (hw _ w_2) (hw _ w_180) (by decide) ((cSame l Z a0 hw [] y489 a360 k360 [(.int c0), (.int (59 : Int32)), (.int (32 : Int32)), (.int (own_let i1)), (.int (9 : Int32)), (.int (61 : Int32)), (.int qu379), (.int se384), (.int se389), (.int se395), (.int (59 : Int32)), (.int (own_let i2)), (.int (32 : Int32)), (.int (61 : Int32)), (.int (34 : Int32)), (.int qu448), (.int qu453), (.int qu478)] [qu448, qu453, qu478] 15 3 zc fm h489 n0 (Nat.le_trans cz483 E489.1) (cf484.ext E489) CS hzc SFm rfm X489 rfl (by decide) cf492 (by decide) (own_blS (own_blS (own_blS own_bl0 rfl) rfl) rfl)).back D489 0 (hw _ w_180) (hw _ w_2) (by decide) (by decide)) rfl [(.ref y489), (.ref a360), (.int (15 : Int32)), (.int (18 : Int32))] rfl (lenOf pd_20 rfl) rfl (Nat.le_of_eq rfl) (by decide) (by decide) at_660 rfl ?_
        intro v493 T493 q493 D493
        subst q493
        show Go p e below _ (T493.setTop (mkF m 663 _ [(.int (1 : Int32))]))
        exact r_Nw D493 hEW hret (by simp) hlk at_663 ⟨own_r1, NF489⟩ (by decide) (by decide)
      · rw [if_neg Phm2] at R489
        obtain rfl := R489
        show Go p e below _ (T489.setTop (mkF m 580 _ [.null]))
        refine g_astore D489 582 #[.val (.long i0), .second, .val (.long i1_), .second, .val (.int sel), .val (.int sh), .val (.int md1), .val (.int md2), .val (.int i1), .val (.int i2), .val (.int iq), .val (.int eb), .val (.ref ny), .val (.int c0), .val (.int (0 : Int32)), .val (.int (0 : Int32)), .val (.ref a360), .val .null, .unset] at_580 rfl rfl rfl ?_
        refine g_iload D489 584 at_582 rfl rfl ?_
        refine g_ifY D489 614 at_584 (by decide) (by decide) (by decide) ?_
        refine g_iload D489 616 at_614 rfl rfl ?_
        refine g_ifY D489 664 at_616 (by decide) (by decide) (by decide) ?_
        refine g_aload D489 666 at_664 rfl rfl rfl ?_
        refine g_nnN D489 669 at_666 rfl ?_
        refine g_iconst D489 670 (1 : Int32) at_669 rfl rfl ?_
        refine g_goto D489 674 at_670 (by decide) (by decide) ?_
        exact r_Nw D489 hEW hret (by simp) hlk at_674 ⟨own_r1, NF489⟩ (by decide) (by decide)
  refine g_ifY D368 375 at_314 (feq za0).2 (by decide) (by decide) ?_
  refine g_aload D368 377 at_375 rfl rfl rfl ?_
  refine g_bipush D368 379 (6 : Int32) at_377 rfl rfl ?_
  refine g_bipush D368 381 (34 : Int32) at_379 rfl rfl ?_
  refine g_castore D368 382 V368 ⟨by decide, by decide⟩ 6 (by decide) (Nat.le_of_ble_eq_true rfl) (fun _ W => D368.iv.wr (Safe.arv D368.wm.alike V368 (by decide)) W) at_381 rfl ?_
  intro T494 h494 W494 V494 D494
  rw [nar_c (by decide)] at V494
  replace V494 : Arv Z h494 a360 k360 .char (18 : Int32) [(.int c0), (.int (59 : Int32)), (.int (32 : Int32)), (.int (own_let i1)), (.int (9 : Int32)), (.int (61 : Int32)), (.int (34 : Int32)), (.int (0 : Int32)), (.int (0 : Int32)), (.int (0 : Int32)), (.int (0 : Int32)), (.int (0 : Int32)), (.int (0 : Int32)), (.int (0 : Int32)), (.int (0 : Int32)), (.int (0 : Int32)), (.int (0 : Int32)), (.int (0 : Int32))] (.int (0 : Int32)) := V494
  have N494 := Fr.snoc D494.st N368 (Nat.le_trans (Nat.le_trans Z0 E312.1) (Nat.le_of_eq g360.symm))
  refine g_aload D494 384 at_382 rfl rfl rfl ?_
  refine g_bipush D494 386 (7 : Int32) at_384 rfl rfl ?_
  refine g_lloadN D494 387 at_386 rfl rfl ?_
  refine g_iconst D494 388 (2 : Int32) at_387 rfl rfl ?_
  refine g_callSp D494 391 (hw _ w_30) (hw _ w_31) (hw _ w_2) (hw _ w_32) (by decide) ((cCh l Z a0 hw [] _ _ h494 n0 (Nat.le_trans cz374 (Keep.of_wr W494).1)).back D494 2 (hw _ w_32) (hw _ w_2) (by decide) (by decide)) rfl [(.long i0), (.int (2 : Int32))] rfl (lenOf pd_26 rfl) rfl (Nat.le_of_eq rfl) (by decide) (by decide) at_388 rfl ?_
  intro v496 T496 q496 D496
  obtain ⟨ch495, rfl, bch495⟩ := q496
  show Go p e below _ (T496.setTop (mkF m 391 _ [(.int ch495), (.int (7 : Int32)), (.ref a360)]))
  refine g_callSp D496 394 (hw _ w_39) (hw _ w_40) (hw _ w_2) (hw _ w_41) (by decide) ((cQuo l Z a0 hw [] ch495 h494 n0 (Nat.le_trans cz374 (Keep.of_wr W494).1) bch495).back D496 2 (hw _ w_41) (hw _ w_2) (by decide) (by decide)) rfl [(.int ch495)] rfl (lenOf pd_29 rfl) rfl (Nat.le_of_eq rfl) (by decide) (by decide) at_391 rfl ?_
  intro v498 T498 q498 D498
  obtain ⟨qu497, rfl, bqu497, nqu497, oqu497⟩ := q498
  show Go p e below _ (T498.setTop (mkF m 394 _ [(.int qu497), (.int (7 : Int32)), (.ref a360)]))
  refine g_castore D498 395 V494 ⟨by decide, by decide⟩ 7 (by decide) (Nat.le_of_ble_eq_true rfl) (fun _ W => D498.iv.wr (Safe.arv D498.wm.alike V494 (by decide)) W) at_394 rfl ?_
  intro T499 h499 W499 V499 D499
  rw [nar_c bqu497] at V499
  replace V499 : Arv Z h499 a360 k360 .char (18 : Int32) [(.int c0), (.int (59 : Int32)), (.int (32 : Int32)), (.int (own_let i1)), (.int (9 : Int32)), (.int (61 : Int32)), (.int (34 : Int32)), (.int qu497), (.int (0 : Int32)), (.int (0 : Int32)), (.int (0 : Int32)), (.int (0 : Int32)), (.int (0 : Int32)), (.int (0 : Int32)), (.int (0 : Int32)), (.int (0 : Int32)), (.int (0 : Int32)), (.int (0 : Int32))] (.int (0 : Int32)) := V499
  have N499 := Fr.snoc D499.st N494 (Nat.le_trans (Nat.le_trans Z0 E312.1) (Nat.le_of_eq g360.symm))
  refine g_aload D499 397 at_395 rfl rfl rfl ?_
  refine g_bipush D499 399 (8 : Int32) at_397 rfl rfl ?_
  refine g_lloadN D499 400 at_399 rfl rfl ?_
  refine g_iconst D499 401 (3 : Int32) at_400 rfl rfl ?_
  refine g_callSp D499 404 (hw _ w_30) (hw _ w_31) (hw _ w_2) (hw _ w_32) (by decide) ((cCh l Z a0 hw [] _ _ h499 n0 (Nat.le_trans (Nat.le_trans cz374 (Keep.of_wr W494).1) (Keep.of_wr W499).1)).back D499 2 (hw _ w_32) (hw _ w_2) (by decide) (by decide)) rfl [(.long i0), (.int (3 : Int32))] rfl (lenOf pd_26 rfl) rfl (Nat.le_of_eq rfl) (by decide) (by decide) at_401 rfl ?_
  intro v501 T501 q501 D501
  obtain ⟨ch500, rfl, bch500⟩ := q501
  show Go p e below _ (T501.setTop (mkF m 404 _ [(.int ch500), (.int (8 : Int32)), (.ref a360)]))
  refine g_callSp D501 407 (hw _ w_39) (hw _ w_40) (hw _ w_2) (hw _ w_41) (by decide) ((cQuo l Z a0 hw [] ch500 h499 n0 (Nat.le_trans (Nat.le_trans cz374 (Keep.of_wr W494).1) (Keep.of_wr W499).1) bch500).back D501 2 (hw _ w_41) (hw _ w_2) (by decide) (by decide)) rfl [(.int ch500)] rfl (lenOf pd_29 rfl) rfl (Nat.le_of_eq rfl) (by decide) (by decide) at_404 rfl ?_
  intro v503 T503 q503 D503
  obtain ⟨qu502, rfl, bqu502, nqu502, oqu502⟩ := q503
  show Go p e below _ (T503.setTop (mkF m 407 _ [(.int qu502), (.int (8 : Int32)), (.ref a360)]))
  refine g_castore D503 408 V499 ⟨by decide, by decide⟩ 8 (by decide) (Nat.le_of_ble_eq_true rfl) (fun _ W => D503.iv.wr (Safe.arv D503.wm.alike V499 (by decide)) W) at_407 rfl ?_
  intro T504 h504 W504 V504 D504
  rw [nar_c bqu502] at V504
  replace V504 : Arv Z h504 a360 k360 .char (18 : Int32) [(.int c0), (.int (59 : Int32)), (.int (32 : Int32)), (.int (own_let i1)), (.int (9 : Int32)), (.int (61 : Int32)), (.int (34 : Int32)), (.int qu497), (.int qu502), (.int (0 : Int32)), (.int (0 : Int32)), (.int (0 : Int32)), (.int (0 : Int32)), (.int (0 : Int32)), (.int (0 : Int32)), (.int (0 : Int32)), (.int (0 : Int32)), (.int (0 : Int32))] (.int (0 : Int32)) := V504
  have N504 := Fr.snoc D504.st N499 (Nat.le_trans (Nat.le_trans Z0 E312.1) (Nat.le_of_eq g360.symm))
  refine g_aload D504 410 at_408 rfl rfl rfl ?_
  refine g_bipush D504 412 (9 : Int32) at_410 rfl rfl ?_
  refine g_bipush D504 414 (34 : Int32) at_412 rfl rfl ?_
  refine g_castore D504 415 V504 ⟨by decide, by decide⟩ 9 (by decide) (Nat.le_of_ble_eq_true rfl) (fun _ W => D504.iv.wr (Safe.arv D504.wm.alike V504 (by decide)) W) at_414 rfl ?_
  intro T505 h505 W505 V505 D505
  rw [nar_c (by decide)] at V505
  replace V505 : Arv Z h505 a360 k360 .char (18 : Int32) [(.int c0), (.int (59 : Int32)), (.int (32 : Int32)), (.int (own_let i1)), (.int (9 : Int32)), (.int (61 : Int32)), (.int (34 : Int32)), (.int qu497), (.int qu502), (.int (34 : Int32)), (.int (0 : Int32)), (.int (0 : Int32)), (.int (0 : Int32)), (.int (0 : Int32)), (.int (0 : Int32)), (.int (0 : Int32)), (.int (0 : Int32)), (.int (0 : Int32))] (.int (0 : Int32)) := V505
  have N505 := Fr.snoc D505.st N504 (Nat.le_trans (Nat.le_trans Z0 E312.1) (Nat.le_of_eq g360.symm))
  refine g_aload D505 417 at_415 rfl rfl rfl ?_
  refine g_bipush D505 419 (10 : Int32) at_417 rfl rfl ?_
  refine g_bipush D505 421 (59 : Int32) at_419 rfl rfl ?_
  refine g_castore D505 422 V505 ⟨by decide, by decide⟩ 10 (by decide) (Nat.le_of_ble_eq_true rfl) (fun _ W => D505.iv.wr (Safe.arv D505.wm.alike V505 (by decide)) W) at_421 rfl ?_
  intro T506 h506 W506 V506 D506
  rw [nar_c (by decide)] at V506
  replace V506 : Arv Z h506 a360 k360 .char (18 : Int32) [(.int c0), (.int (59 : Int32)), (.int (32 : Int32)), (.int (own_let i1)), (.int (9 : Int32)), (.int (61 : Int32)), (.int (34 : Int32)), (.int qu497), (.int qu502), (.int (34 : Int32)), (.int (59 : Int32)), (.int (0 : Int32)), (.int (0 : Int32)), (.int (0 : Int32)), (.int (0 : Int32)), (.int (0 : Int32)), (.int (0 : Int32)), (.int (0 : Int32))] (.int (0 : Int32)) := V506
  have N506 := Fr.snoc D506.st N505 (Nat.le_trans (Nat.le_trans Z0 E312.1) (Nat.le_of_eq g360.symm))
  refine g_aload D506 424 at_422 rfl rfl rfl ?_
  refine g_bipush D506 426 (11 : Int32) at_424 rfl rfl ?_
  refine g_iload D506 428 at_426 rfl rfl ?_
  have cz507 : n0 ≤ h506.size := (Nat.le_trans (Nat.le_trans (Nat.le_trans (Nat.le_trans (Nat.le_trans cz374 (Keep.of_wr W494).1) (Keep.of_wr W499).1) (Keep.of_wr W504).1) (Keep.of_wr W505).1) (Keep.of_wr W506).1)
  refine g_callSp D506 431 (hw _ w_0) (hw _ w_1) (hw _ w_2) (hw _ w_3) (by decide) ((cLe l Z a0 hw [] i2 h506 n0 cz507).back D506 2 (hw _ w_3) (hw _ w_2) (by decide) (by decide)) rfl [(.int i2)] rfl (lenOf pd_18 rfl) rfl (Nat.le_of_eq rfl) (by decide) (by decide) at_428 rfl ?_
  intro v508 T508 q508 D508
  subst q508
  show Go p e below _ (T508.setTop (mkF m 431 _ [(.int (own_let i2)), (.int (11 : Int32)), (.ref a360)]))
  refine g_castore D508 432 V506 ⟨by decide, by decide⟩ 11 (by decide) (Nat.le_of_ble_eq_true rfl) (fun _ W => D508.iv.wr (Safe.arv D508.wm.alike V506 (by decide)) W) at_431 rfl ?_
  intro T509 h509 W509 V509 D509
  rw [nar_c (own_isl8 (own_letl i2)).1] at V509
  replace V509 : Arv Z h509 a360 k360 .char (18 : Int32) [(.int c0), (.int (59 : Int32)), (.int (32 : Int32)), (.int (own_let i1)), (.int (9 : Int32)), (.int (61 : Int32)), (.int (34 : Int32)), (.int qu497), (.int qu502), (.int (34 : Int32)), (.int (59 : Int32)), (.int (own_let i2)), (.int (0 : Int32)), (.int (0 : Int32)), (.int (0 : Int32)), (.int (0 : Int32)), (.int (0 : Int32)), (.int (0 : Int32))] (.int (0 : Int32)) := V509
  have N509 := Fr.snoc D509.st N506 (Nat.le_trans (Nat.le_trans Z0 E312.1) (Nat.le_of_eq g360.symm))
  refine g_aload D509 434 at_432 rfl rfl rfl ?_
  refine g_bipush D509 436 (12 : Int32) at_434 rfl rfl ?_
  refine g_bipush D509 438 (32 : Int32) at_436 rfl rfl ?_
  refine g_castore D509 439 V509 ⟨by decide, by decide⟩ 12 (by decide) (Nat.le_of_ble_eq_true rfl) (fun _ W => D509.iv.wr (Safe.arv D509.wm.alike V509 (by decide)) W) at_438 rfl ?_
  intro T510 h510 W510 V510 D510
  rw [nar_c (by decide)] at V510
  replace V510 : Arv Z h510 a360 k360 .char (18 : Int32) [(.int c0), (.int (59 : Int32)), (.int (32 : Int32)), (.int (own_let i1)), (.int (9 : Int32)), (.int (61 : Int32)), (.int (34 : Int32)), (.int qu497), (.int qu502), (.int (34 : Int32)), (.int (59 : Int32)), (.int (own_let i2)), (.int (32 : Int32)), (.int (0 : Int32)), (.int (0 : Int32)), (.int (0 : Int32)), (.int (0 : Int32)), (.int (0 : Int32))] (.int (0 : Int32)) := V510
  have N510 := Fr.snoc D510.st N509 (Nat.le_trans (Nat.le_trans Z0 E312.1) (Nat.le_of_eq g360.symm))
  refine g_aload D510 441 at_439 rfl rfl rfl ?_
  refine g_bipush D510 443 (13 : Int32) at_441 rfl rfl ?_
  refine g_bipush D510 445 (61 : Int32) at_443 rfl rfl ?_
  refine g_castore D510 446 V510 ⟨by decide, by decide⟩ 13 (by decide) (Nat.le_of_ble_eq_true rfl) (fun _ W => D510.iv.wr (Safe.arv D510.wm.alike V510 (by decide)) W) at_445 rfl ?_
  intro T511 h511 W511 V511 D511
  rw [nar_c (by decide)] at V511
  replace V511 : Arv Z h511 a360 k360 .char (18 : Int32) [(.int c0), (.int (59 : Int32)), (.int (32 : Int32)), (.int (own_let i1)), (.int (9 : Int32)), (.int (61 : Int32)), (.int (34 : Int32)), (.int qu497), (.int qu502), (.int (34 : Int32)), (.int (59 : Int32)), (.int (own_let i2)), (.int (32 : Int32)), (.int (61 : Int32)), (.int (0 : Int32)), (.int (0 : Int32)), (.int (0 : Int32)), (.int (0 : Int32))] (.int (0 : Int32)) := V511
  have N511 := Fr.snoc D511.st N510 (Nat.le_trans (Nat.le_trans Z0 E312.1) (Nat.le_of_eq g360.symm))
  refine g_iload D511 448 at_446 rfl rfl ?_
  have cf512 := ((((((((cf369.wr W494 (Nat.le_trans (Nat.le_trans Z0 E312.1) (Nat.le_of_eq g360.symm))).wr W499 (Nat.le_trans (Nat.le_trans Z0 E312.1) (Nat.le_of_eq g360.symm))).wr W504 (Nat.le_trans (Nat.le_trans Z0 E312.1) (Nat.le_of_eq g360.symm))).wr W505 (Nat.le_trans (Nat.le_trans Z0 E312.1) (Nat.le_of_eq g360.symm))).wr W506 (Nat.le_trans (Nat.le_trans Z0 E312.1) (Nat.le_of_eq g360.symm))).wr W509 (Nat.le_trans (Nat.le_trans Z0 E312.1) (Nat.le_of_eq g360.symm))).wr W510 (Nat.le_trans (Nat.le_trans Z0 E312.1) (Nat.le_of_eq g360.symm))).wr W511 (Nat.le_trans (Nat.le_trans Z0 E312.1) (Nat.le_of_eq g360.symm)))
  have cf513 := ((((((((cf370.wr W494).wr W499).wr W504).wr W505).wr W506).wr W509).wr W510).wr W511)
  have cf514 := ((((((((cf371.other W494 (Or.inl (Nat.ne_of_lt (Nat.lt_of_lt_of_le y1.lt (Nat.le_of_eq g360.symm))))).other W499 (Or.inl (Nat.ne_of_lt (Nat.lt_of_lt_of_le y1.lt (Nat.le_of_eq g360.symm))))).other W504 (Or.inl (Nat.ne_of_lt (Nat.lt_of_lt_of_le y1.lt (Nat.le_of_eq g360.symm))))).other W505 (Or.inl (Nat.ne_of_lt (Nat.lt_of_lt_of_le y1.lt (Nat.le_of_eq g360.symm))))).other W506 (Or.inl (Nat.ne_of_lt (Nat.lt_of_lt_of_le y1.lt (Nat.le_of_eq g360.symm))))).other W509 (Or.inl (Nat.ne_of_lt (Nat.lt_of_lt_of_le y1.lt (Nat.le_of_eq g360.symm))))).other W510 (Or.inl (Nat.ne_of_lt (Nat.lt_of_lt_of_le y1.lt (Nat.le_of_eq g360.symm))))).other W511 (Or.inl (Nat.ne_of_lt (Nat.lt_of_lt_of_le y1.lt (Nat.le_of_eq g360.symm)))))
  have cf515 := ((((((((cf372.other W494 (Or.inl (Nat.ne_of_lt (Nat.lt_of_lt_of_le y1.lt (Nat.le_of_eq g360.symm))))).other W499 (Or.inl (Nat.ne_of_lt (Nat.lt_of_lt_of_le y1.lt (Nat.le_of_eq g360.symm))))).other W504 (Or.inl (Nat.ne_of_lt (Nat.lt_of_lt_of_le y1.lt (Nat.le_of_eq g360.symm))))).other W505 (Or.inl (Nat.ne_of_lt (Nat.lt_of_lt_of_le y1.lt (Nat.le_of_eq g360.symm))))).other W506 (Or.inl (Nat.ne_of_lt (Nat.lt_of_lt_of_le y1.lt (Nat.le_of_eq g360.symm))))).other W509 (Or.inl (Nat.ne_of_lt (Nat.lt_of_lt_of_le y1.lt (Nat.le_of_eq g360.symm))))).other W510 (Or.inl (Nat.ne_of_lt (Nat.lt_of_lt_of_le y1.lt (Nat.le_of_eq g360.symm))))).other W511 (Or.inl (Nat.ne_of_lt (Nat.lt_of_lt_of_le y1.lt (Nat.le_of_eq g360.symm)))))
  have cf516 := ((((((((cf373.other W494 (Nat.ne_of_lt (Nat.lt_of_lt_of_le y4.lt (Nat.le_of_eq g360.symm)))).other W499 (Nat.ne_of_lt (Nat.lt_of_lt_of_le y4.lt (Nat.le_of_eq g360.symm)))).other W504 (Nat.ne_of_lt (Nat.lt_of_lt_of_le y4.lt (Nat.le_of_eq g360.symm)))).other W505 (Nat.ne_of_lt (Nat.lt_of_lt_of_le y4.lt (Nat.le_of_eq g360.symm)))).other W506 (Nat.ne_of_lt (Nat.lt_of_lt_of_le y4.lt (Nat.le_of_eq g360.symm)))).other W509 (Nat.ne_of_lt (Nat.lt_of_lt_of_le y4.lt (Nat.le_of_eq g360.symm)))).other W510 (Nat.ne_of_lt (Nat.lt_of_lt_of_le y4.lt (Nat.le_of_eq g360.symm)))).other W511 (Nat.ne_of_lt (Nat.lt_of_lt_of_le y4.lt (Nat.le_of_eq g360.symm))))
  have cz517 : n0 ≤ h511.size := (Nat.le_trans (Nat.le_trans (Nat.le_trans cz507 (Keep.of_wr W509).1) (Keep.of_wr W510).1) (Keep.of_wr W511).1)
  by_cases zb0 : md2 = (0 : Int32)
  · refine g_ifN D511 451 at_448 (teq zb0).2 rfl ?_
    refine g_aload D511 453 at_451 rfl rfl rfl ?_
    refine g_bipush D511 455 (14 : Int32) at_453 rfl rfl ?_
    refine g_lloadN D511 456 at_455 rfl rfl ?_
    refine g_iconst D511 457 (0 : Int32) at_456 rfl rfl ?_
    refine g_callSp D511 460 (hw _ w_30) (hw _ w_31) (hw _ w_2) (hw _ w_32) (by decide) ((cCh l Z a0 hw [] _ _ h511 n0 cz517).back D511 2 (hw _ w_32) (hw _ w_2) (by decide) (by decide)) rfl [(.long i1_), (.int (0 : Int32))] rfl (lenOf pd_26 rfl) rfl (Nat.le_of_eq rfl) (by decide) (by decide) at_457 rfl ?_
    intro v519 T519 q519 D519
    obtain ⟨ch518, rfl, bch518⟩ := q519
    show Go p e below _ (T519.setTop (mkF m 460 _ [(.int ch518), (.int (14 : Int32)), (.ref a360)]))
    refine g_callSp D519 463 (hw _ w_42) (hw _ w_43) (hw _ w_2) (hw _ w_44) (by decide) ((cSemi l Z a0 hw [] ch518 h511 n0 cz517 bch518).back D519 2 (hw _ w_44) (hw _ w_2) (by decide) (by decide)) rfl [(.int ch518)] rfl (lenOf pd_29 rfl) rfl (Nat.le_of_eq rfl) (by decide) (by decide) at_460 rfl ?_
    intro v521 T521 q521 D521
    obtain ⟨se520, rfl, bse520, nse520, ose520⟩ := q521
    show Go p e below _ (T521.setTop (mkF m 463 _ [(.int se520), (.int (14 : Int32)), (.ref a360)]))
    refine g_callSp D521 466 (hw _ w_39) (hw _ w_40) (hw _ w_2) (hw _ w_41) (by decide) ((cQuo l Z a0 hw [] se520 h511 n0 cz517 bse520).back D521 2 (hw _ w_41) (hw _ w_2) (by decide) (by decide)) rfl [(.int se520)] rfl (lenOf pd_29 rfl) rfl (Nat.le_of_eq rfl) (by decide) (by decide) at_463 rfl ?_
    intro v523 T523 q523 D523
    obtain ⟨qu522, rfl, bqu522, nqu522, oqu522⟩ := q523
    show Go p e below _ (T523.setTop (mkF m 466 _ [(.int qu522), (.int (14 : Int32)), (.ref a360)]))
    refine g_castore D523 467 V511 ⟨by decide, by decide⟩ 14 (by decide) (Nat.le_of_ble_eq_true rfl) (fun _ W => D523.iv.wr (Safe.arv D523.wm.alike V511 (by decide)) W) at_466 rfl ?_
    intro T524 h524 W524 V524 D524
    rw [nar_c bqu522] at V524
    replace V524 : Arv Z h524 a360 k360 .char (18 : Int32) [(.int c0), (.int (59 : Int32)), (.int (32 : Int32)), (.int (own_let i1)), (.int (9 : Int32)), (.int (61 : Int32)), (.int (34 : Int32)), (.int qu497), (.int qu502), (.int (34 : Int32)), (.int (59 : Int32)), (.int (own_let i2)), (.int (32 : Int32)), (.int (61 : Int32)), (.int qu522), (.int (0 : Int32)), (.int (0 : Int32)), (.int (0 : Int32))] (.int (0 : Int32)) := V524
    have N524 := Fr.snoc D524.st N511 (Nat.le_trans (Nat.le_trans Z0 E312.1) (Nat.le_of_eq g360.symm))
    refine g_aload D524 469 at_467 rfl rfl rfl ?_
    refine g_bipush D524 471 (15 : Int32) at_469 rfl rfl ?_
    refine g_lloadN D524 472 at_471 rfl rfl ?_
    refine g_iconst D524 473 (1 : Int32) at_472 rfl rfl ?_
    refine g_callSp D524 476 (hw _ w_30) (hw _ w_31) (hw _ w_2) (hw _ w_32) (by decide) ((cCh l Z a0 hw [] _ _ h524 n0 (Nat.le_trans cz517 (Keep.of_wr W524).1)).back D524 2 (hw _ w_32) (hw _ w_2) (by decide) (by decide)) rfl [(.long i1_), (.int (1 : Int32))] rfl (lenOf pd_26 rfl) rfl (Nat.le_of_eq rfl) (by decide) (by decide) at_473 rfl ?_
    intro v526 T526 q526 D526
    obtain ⟨ch525, rfl, bch525⟩ := q526
    show Go p e below _ (T526.setTop (mkF m 476 _ [(.int ch525), (.int (15 : Int32)), (.ref a360)]))
    refine g_callSp D526 479 (hw _ w_42) (hw _ w_43) (hw _ w_2) (hw _ w_44) (by decide) ((cSemi l Z a0 hw [] ch525 h524 n0 (Nat.le_trans cz517 (Keep.of_wr W524).1) bch525).back D526 2 (hw _ w_44) (hw _ w_2) (by decide) (by decide)) rfl [(.int ch525)] rfl (lenOf pd_29 rfl) rfl (Nat.le_of_eq rfl) (by decide) (by decide) at_476 rfl ?_
    intro v528 T528 q528 D528
    obtain ⟨se527, rfl, bse527, nse527, ose527⟩ := q528
    show Go p e below _ (T528.setTop (mkF m 479 _ [(.int se527), (.int (15 : Int32)), (.ref a360)]))
    refine g_castore D528 480 V524 ⟨by decide, by decide⟩ 15 (by decide) (Nat.le_of_ble_eq_true rfl) (fun _ W => D528.iv.wr (Safe.arv D528.wm.alike V524 (by decide)) W) at_479 rfl ?_
    intro T529 h529 W529 V529 D529
    rw [nar_c bse527] at V529
    replace V529 : Arv Z h529 a360 k360 .char (18 : Int32) [(.int c0), (.int (59 : Int32)), (.int (32 : Int32)), (.int (own_let i1)), (.int (9 : Int32)), (.int (61 : Int32)), (.int (34 : Int32)), (.int qu497), (.int qu502), (.int (34 : Int32)), (.int (59 : Int32)), (.int (own_let i2)), (.int (32 : Int32)), (.int (61 : Int32)), (.int qu522), (.int se527), (.int (0 : Int32)), (.int (0 : Int32))] (.int (0 : Int32)) := V529
    have N529 := Fr.snoc D529.st N524 (Nat.le_trans (Nat.le_trans Z0 E312.1) (Nat.le_of_eq g360.symm))
    refine g_aload D529 482 at_480 rfl rfl rfl ?_
    refine g_bipush D529 484 (16 : Int32) at_482 rfl rfl ?_
    refine g_lloadN D529 485 at_484 rfl rfl ?_
    refine g_iconst D529 486 (2 : Int32) at_485 rfl rfl ?_
    refine g_callSp D529 489 (hw _ w_30) (hw _ w_31) (hw _ w_2) (hw _ w_32) (by decide) ((cCh l Z a0 hw [] _ _ h529 n0 (Nat.le_trans (Nat.le_trans cz517 (Keep.of_wr W524).1) (Keep.of_wr W529).1)).back D529 2 (hw _ w_32) (hw _ w_2) (by decide) (by decide)) rfl [(.long i1_), (.int (2 : Int32))] rfl (lenOf pd_26 rfl) rfl (Nat.le_of_eq rfl) (by decide) (by decide) at_486 rfl ?_
    intro v531 T531 q531 D531
    obtain ⟨ch530, rfl, bch530⟩ := q531
    show Go p e below _ (T531.setTop (mkF m 489 _ [(.int ch530), (.int (16 : Int32)), (.ref a360)]))
    refine g_callSp D531 492 (hw _ w_42) (hw _ w_43) (hw _ w_2) (hw _ w_44) (by decide) ((cSemi l Z a0 hw [] ch530 h529 n0 (Nat.le_trans (Nat.le_trans cz517 (Keep.of_wr W524).1) (Keep.of_wr W529).1) bch530).back D531 2 (hw _ w_44) (hw _ w_2) (by decide) (by decide)) rfl [(.int ch530)] rfl (lenOf pd_29 rfl) rfl (Nat.le_of_eq rfl) (by decide) (by decide) at_489 rfl ?_
    intro v533 T533 q533 D533
    obtain ⟨se532, rfl, bse532, nse532, ose532⟩ := q533
    show Go p e below _ (T533.setTop (mkF m 492 _ [(.int se532), (.int (16 : Int32)), (.ref a360)]))
    refine g_castore D533 493 V529 ⟨by decide, by decide⟩ 16 (by decide) (Nat.le_of_ble_eq_true rfl) (fun _ W => D533.iv.wr (Safe.arv D533.wm.alike V529 (by decide)) W) at_492 rfl ?_
    intro T534 h534 W534 V534 D534
    rw [nar_c bse532] at V534
    replace V534 : Arv Z h534 a360 k360 .char (18 : Int32) [(.int c0), (.int (59 : Int32)), (.int (32 : Int32)), (.int (own_let i1)), (.int (9 : Int32)), (.int (61 : Int32)), (.int (34 : Int32)), (.int qu497), (.int qu502), (.int (34 : Int32)), (.int (59 : Int32)), (.int (own_let i2)), (.int (32 : Int32)), (.int (61 : Int32)), (.int qu522), (.int se527), (.int se532), (.int (0 : Int32))] (.int (0 : Int32)) := V534
    have N534 := Fr.snoc D534.st N529 (Nat.le_trans (Nat.le_trans Z0 E312.1) (Nat.le_of_eq g360.symm))
    refine g_aload D534 495 at_493 rfl rfl rfl ?_
    refine g_bipush D534 497 (17 : Int32) at_495 rfl rfl ?_
    refine g_lloadN D534 498 at_497 rfl rfl ?_
    refine g_iconst D534 499 (3 : Int32) at_498 rfl rfl ?_
    have cz536 : n0 ≤ h534.size := (Nat.le_trans (Nat.le_trans (Nat.le_trans cz517 (Keep.of_wr W524).1) (Keep.of_wr W529).1) (Keep.of_wr W534).1)
    refine g_callSp D534 502 (hw _ w_30) (hw _ w_31) (hw _ w_2) (hw _ w_32) (by decide) ((cCh l Z a0 hw [] _ _ h534 n0 cz536).back D534 2 (hw _ w_32) (hw _ w_2) (by decide) (by decide)) rfl [(.long i1_), (.int (3 : Int32))] rfl (lenOf pd_26 rfl) rfl (Nat.le_of_eq rfl) (by decide) (by decide) at_499 rfl ?_
    intro v537 T537 q537 D537
    obtain ⟨ch535, rfl, bch535⟩ := q537
    show Go p e below _ (T537.setTop (mkF m 502 _ [(.int ch535), (.int (17 : Int32)), (.ref a360)]))
    refine g_callSp D537 505 (hw _ w_42) (hw _ w_43) (hw _ w_2) (hw _ w_44) (by decide) ((cSemi l Z a0 hw [] ch535 h534 n0 cz536 bch535).back D537 2 (hw _ w_44) (hw _ w_2) (by decide) (by decide)) rfl [(.int ch535)] rfl (lenOf pd_29 rfl) rfl (Nat.le_of_eq rfl) (by decide) (by decide) at_502 rfl ?_
    intro v539 T539 q539 D539
    obtain ⟨se538, rfl, bse538, nse538, ose538⟩ := q539
    show Go p e below _ (T539.setTop (mkF m 505 _ [(.int se538), (.int (17 : Int32)), (.ref a360)]))
    refine g_castore D539 506 V534 ⟨by decide, by decide⟩ 17 (by decide) (Nat.le_of_ble_eq_true rfl) (fun _ W => D539.iv.wr (Safe.arv D539.wm.alike V534 (by decide)) W) at_505 rfl ?_
    intro T540 h540 W540 V540 D540
    rw [nar_c bse538] at V540
    replace V540 : Arv Z h540 a360 k360 .char (18 : Int32) [(.int c0), (.int (59 : Int32)), (.int (32 : Int32)), (.int (own_let i1)), (.int (9 : Int32)), (.int (61 : Int32)), (.int (34 : Int32)), (.int qu497), (.int qu502), (.int (34 : Int32)), (.int (59 : Int32)), (.int (own_let i2)), (.int (32 : Int32)), (.int (61 : Int32)), (.int qu522), (.int se527), (.int se532), (.int se538)] (.int (0 : Int32)) := V540
    have N540 := Fr.snoc D540.st N534 (Nat.le_trans (Nat.le_trans Z0 E312.1) (Nat.le_of_eq g360.symm))
    refine g_goto D540 566 at_506 (by decide) (by decide) ?_
    refine g_newO D540 569 (hw _ w_45) (hw _ w_14) (hw _ w_6) at_566 (by decide) (by decide) (fun _ E => D540.iv.ext E) rfl ?_
    intro T541 h541 a541 g541 E541 A541 N541 D541
    refine g_dup D541 570 at_569 rfl rfl ?_
    refine g_aload D541 572 at_570 rfl rfl rfl ?_
    refine g_callN D541 575 rfl (hw _ w_46) (hw _ w_47) (hw _ w_48) (by decide) (StrChars.Road.backV (W := 1) D541.wm (fun d hd => hw d (wbv d hd)) (kI := 4) (hw _ w_14) (cs := [c0, (59 : Int32), (32 : Int32), (own_let i1), (9 : Int32), (61 : Int32), (34 : Int32), qu497, qu502, (34 : Int32), (59 : Int32), (own_let i2), (32 : Int32), (61 : Int32), qu522, se527, se532, se538]) (bs := ([c0, (59 : Int32), (32 : Int32), (own_let i1), (9 : Int32), (61 : Int32), (34 : Int32), qu497, qu502, (34 : Int32), (59 : Int32), (own_let i2), (32 : Int32), (61 : Int32), qu522, se527, se532, se538].map StrChars.lo8)) (n := 18) (n0 := n0) (Nat.le_trans (Nat.le_trans cz536 (Keep.of_wr W540).1) (Nat.le_of_eq g541.symm)) (Nat.le_trans (Nat.le_trans cz536 (Keep.of_wr W540).1) E541.1) A541 (N541 (Or.inr (hw _ w_27)) (ty := (.array .byte)) (by decide)) (N541 (Or.inr (hw _ w_29)) (ty := .byte) (by decide)) (V540.ext E541) (CS.ext (((((cf512.wr W524 (Nat.le_trans (Nat.le_trans Z0 E312.1) (Nat.le_of_eq g360.symm))).wr W529 (Nat.le_trans (Nat.le_trans Z0 E312.1) (Nat.le_of_eq g360.symm))).wr W534 (Nat.le_trans (Nat.le_trans Z0 E312.1) (Nat.le_of_eq g360.symm))).wr W540 (Nat.le_trans (Nat.le_trans Z0 E312.1) (Nat.le_of_eq g360.symm))).ext E541).2) hzc rfl rfl (by decide) (by decide) (b8_cons bc0 (b8_cons (by decide) (b8_cons (by decide) (b8_cons (own_isl8 (own_letl i1)).1 (b8_cons (by decide) (b8_cons (by decide) (b8_cons (by decide) (b8_cons bqu497 (b8_cons bqu502 (b8_cons (by decide) (b8_cons (by decide) (b8_cons (own_isl8 (own_letl i2)).1 (b8_cons (by decide) (b8_cons (by decide) (b8_cons bqu522 (b8_cons bse527 (b8_cons bse532 (b8_cons bse538 b8_nil)))))))))))))))))) rfl (by decide) (by decide)) rfl [(.ref a360)] rfl (lenOf pd_28 rfl) rfl (Nat.le_of_eq rfl) (by decide) (by decide) (fun _ _ _ q => D541.iv.keep (sfS (safe_null D541.wm.alike A541 (N541 (Or.inr (hw _ w_27)) (ty := (.array .byte)) (by decide))) sf0) q.2.2.1) at_572 rfl ?_
    intro v542 T542 h542 L542 q542 D542
    obtain ⟨rfl, N542, K542, A542, C542, t542, kb542, -, -, -, Vf542, Va542⟩ := q542
    have NF542 := Fr.app N540 N542
    have X542 : LS Z h542 a541 [c0, (59 : Int32), (32 : Int32), (own_let i1), (9 : Int32), (61 : Int32), (34 : Int32), qu497, qu502, (34 : Int32), (59 : Int32), (own_let i2), (32 : Int32), (61 : Int32), qu522, se527, se532, se538] := ⟨t542, kb542, A542, C542, Vf542, Va542, (b8_cons bc0 (b8_cons (by decide) (b8_cons (by decide) (b8_cons (own_isl8 (own_letl i1)).1 (b8_cons (by decide) (b8_cons (by decide) (b8_cons (by decide) (b8_cons bqu497 (b8_cons bqu502 (b8_cons (by decide) (b8_cons (by decide) (b8_cons (own_isl8 (own_letl i2)).1 (b8_cons (by decide) (b8_cons (by decide) (b8_cons bqu522 (b8_cons bse527 (b8_cons bse532 (b8_cons bse538 b8_nil)))))))))))))))))), Nat.le_of_ble_eq_true rfl⟩
    show Go p e below _ (T542.setTop (mkF m 575 _ [(.ref a541)]))
    refine g_aload D542 577 at_575 rfl rfl rfl ?_
    have cz543 : n0 ≤ h542.size := (Nat.le_trans (Nat.le_trans (Nat.le_trans cz536 (Keep.of_wr W540).1) E541.1) K542.1)
    have cf544 := ((((((cf512.wr W524 (Nat.le_trans (Nat.le_trans Z0 E312.1) (Nat.le_of_eq g360.symm))).wr W529 (Nat.le_trans (Nat.le_trans Z0 E312.1) (Nat.le_of_eq g360.symm))).wr W534 (Nat.le_trans (Nat.le_trans Z0 E312.1) (Nat.le_of_eq g360.symm))).wr W540 (Nat.le_trans (Nat.le_trans Z0 E312.1) (Nat.le_of_eq g360.symm))).ext E541).keep K542 (allS (Nat.le_trans (Nat.le_trans (Nat.le_trans (Nat.le_trans (Nat.le_trans (Nat.le_trans (Nat.le_trans (Nat.le_trans (Nat.le_trans (Nat.le_trans (Nat.le_trans (Nat.le_trans (Nat.le_trans (Nat.le_trans (Nat.le_trans (Nat.le_trans (Nat.le_trans (Nat.le_trans (Nat.le_trans (Nat.le_trans (Nat.le_trans Z0 E312.1) E360.1) (Keep.of_wr W361).1) (Keep.of_wr W362).1) (Keep.of_wr W363).1) (Keep.of_wr W366).1) (Keep.of_wr W367).1) (Keep.of_wr W368).1) (Keep.of_wr W494).1) (Keep.of_wr W499).1) (Keep.of_wr W504).1) (Keep.of_wr W505).1) (Keep.of_wr W506).1) (Keep.of_wr W509).1) (Keep.of_wr W510).1) (Keep.of_wr W511).1) (Keep.of_wr W524).1) (Keep.of_wr W529).1) (Keep.of_wr W534).1) (Keep.of_wr W540).1) (Nat.le_of_eq g541.symm)) all0))
    have cf545 := ((((((cf513.wr W524).wr W529).wr W534).wr W540).ext E541).keep K542)
    have cf546 := ((((((cf514.other W524 (Or.inl (Nat.ne_of_lt (Nat.lt_of_lt_of_le y1.lt (Nat.le_of_eq g360.symm))))).other W529 (Or.inl (Nat.ne_of_lt (Nat.lt_of_lt_of_le y1.lt (Nat.le_of_eq g360.symm))))).other W534 (Or.inl (Nat.ne_of_lt (Nat.lt_of_lt_of_le y1.lt (Nat.le_of_eq g360.symm))))).other W540 (Or.inl (Nat.ne_of_lt (Nat.lt_of_lt_of_le y1.lt (Nat.le_of_eq g360.symm))))).ext E541).keep K542 (ninS (Nat.ne_of_lt (Nat.lt_of_lt_of_le (Nat.lt_of_lt_of_le (Nat.lt_of_lt_of_le (Nat.lt_of_lt_of_le (Nat.lt_of_lt_of_le cf513.lt (Keep.of_wr W524).1) (Keep.of_wr W529).1) (Keep.of_wr W534).1) (Keep.of_wr W540).1) (Nat.le_of_eq g541.symm))) nin0))
    have cf547 := ((((((cf515.other W524 (Or.inl (Nat.ne_of_lt (Nat.lt_of_lt_of_le y1.lt (Nat.le_of_eq g360.symm))))).other W529 (Or.inl (Nat.ne_of_lt (Nat.lt_of_lt_of_le y1.lt (Nat.le_of_eq g360.symm))))).other W534 (Or.inl (Nat.ne_of_lt (Nat.lt_of_lt_of_le y1.lt (Nat.le_of_eq g360.symm))))).other W540 (Or.inl (Nat.ne_of_lt (Nat.lt_of_lt_of_le y1.lt (Nat.le_of_eq g360.symm))))).ext E541).keep K542 (ninS (Nat.ne_of_lt (Nat.lt_of_lt_of_le (Nat.lt_of_lt_of_le (Nat.lt_of_lt_of_le (Nat.lt_of_lt_of_le (Nat.lt_of_lt_of_le cf513.lt (Keep.of_wr W524).1) (Keep.of_wr W529).1) (Keep.of_wr W534).1) (Keep.of_wr W540).1) (Nat.le_of_eq g541.symm))) nin0))
    have cf548 := ((((((cf516.other W524 (Nat.ne_of_lt (Nat.lt_of_lt_of_le y4.lt (Nat.le_of_eq g360.symm)))).other W529 (Nat.ne_of_lt (Nat.lt_of_lt_of_le y4.lt (Nat.le_of_eq g360.symm)))).other W534 (Nat.ne_of_lt (Nat.lt_of_lt_of_le y4.lt (Nat.le_of_eq g360.symm)))).other W540 (Nat.ne_of_lt (Nat.lt_of_lt_of_le y4.lt (Nat.le_of_eq g360.symm)))).ext E541).keep K542 (ninS (Nat.ne_of_lt (Nat.lt_of_lt_of_le (Nat.lt_of_lt_of_le (Nat.lt_of_lt_of_le (Nat.lt_of_lt_of_le (Nat.lt_of_lt_of_le cf516.lt (Keep.of_wr W524).1) (Keep.of_wr W529).1) (Keep.of_wr W534).1) (Keep.of_wr W540).1) (Nat.le_of_eq g541.symm))) nin0))
    refine g_callSW D542 580 hEW (hw _ w_34) (hw _ w_35) (hw _ w_36) (hw _ w_37) (by decide) (cP2 l Z a0 hw [] a541 ny c0 (own_let i1) (34 : Int32) qu497 qu502 (34 : Int32) (own_let i2) qu522 se527 se532 se538 (own_let iq) zc fm [qu497, qu502] (own_trim [qu522, se527, se532, se538]) h542 n0 cz543 hEW cf544 CS hzc SFm rfm X542 ⟨nt, nk, cf545, cf546, cf547, cf548, y5, y6⟩ (own_letl i1) (own_letl iq) (own_letl i2) (Or.inr ⟨rfl, rfl, nqu497, nqu502, rfl⟩) (Or.inl ⟨nqu522, own_sq nse520 oqu522, nse527, nse532, nse538, rfl⟩)) rfl [(.ref a541), (.ref ny)] rfl (lenOf pd_27 rfl) rfl 0 (Nat.le_of_eq rfl) (by decide) (by decide) (by decide) (by decide) at_577 rfl ?_
    intro v549 s549 T549 h549 L549 q549 SF549 D549
    obtain ⟨w549, rfl, N549, E549, R549⟩ := q549
    have NF549 := Fr.app NF542 N549
    rcases hm1 with ⟨rfl, Phm1⟩ | ⟨rfl, Phm1⟩
    · rw [if_pos Phm1] at R549
      obtain ⟨y549, rfl, X549⟩ := R549
      show Go p e below _ (T549.setTop (mkF m 580 _ [(.ref y549)]))
      refine g_astore D549 582 #[.val (.long i0), .second, .val (.long i1_), .second, .val (.int sel), .val (.int sh), .val (.int md1), .val (.int md2), .val (.int i1), .val (.int i2), .val (.int iq), .val (.int eb), .val (.ref ny), .val (.int c0), .val (.int (1 : Int32)), .val (.int m2), .val (.ref a360), .val (.ref y549), .unset] at_580 rfl rfl rfl ?_
      refine g_iload D549 584 at_582 rfl rfl ?_
      refine g_ifN D549 587 at_584 (by decide) rfl ?_
      refine g_iload D549 589 at_587 rfl rfl ?_
      refine g_ifY D549 602 at_589 (feq za0).2 (by decide) (by decide) ?_
      refine g_aload D549 604 at_602 rfl rfl rfl ?_
      refine g_aload D549 606 at_604 rfl rfl rfl ?_
      refine g_bipush D549 608 (7 : Int32) at_606 rfl rfl ?_
      refine g_bipush D549 610 (9 : Int32) at_608 rfl rfl ?_
      have cf550 := (((V540.ext E541).keep K542 (ninS (Nat.ne_of_lt (Nat.lt_of_lt_of_le V540.lt (Nat.le_of_eq g541.symm))) nin0)).ext E549)
      refine g_callSp D549 613 (hw _ w_178) (hw _ w_179) (hw _ w_2) (hw _ w_180) (by decide) ((cSame l Z a0 hw [] y549 a360 k360 [(.int c0), (.int (59 : Int32)), (.int (32 : Int32)), (.int (own_let i1)), (.int (9 : Int32)), (.int (61 : Int32)), (.int (34 : Int32)), (.int qu497), (.int qu502), (.int (34 : Int32)), (.int (59 : Int32)), (.int (own_let i2)), (.int (32 : Int32)), (.int (61 : Int32)), (.int qu522), (.int se527), (.int se532), (.int se538)] [qu497, qu502] 7 2 zc fm h549 n0 (Nat.le_trans cz543 E549.1) (cf544.ext E549) CS hzc SFm rfm X549 rfl (by decide) cf550 (by decide) (own_blS (own_blS own_bl0 rfl) rfl)).back D549 0 (hw _ w_180) (hw _ w_2) (by decide) (by decide)) rfl [(.ref y549), (.ref a360), (.int (7 : Int32)), (.int (9 : Int32))] rfl (lenOf pd_20 rfl) rfl (Nat.le_of_eq rfl) (by decide) (by decide) at_610 rfl ?_
      intro v551 T551 q551 D551
      subst q551
      show Go p e below _ (T551.setTop (mkF m 613 _ [(.int (1 : Int32))]))
      exact r_Nw D551 hEW hret (by simp) hlk at_613 ⟨own_r1, NF549⟩ (by decide) (by decide)
    · rw [if_neg Phm1] at R549
      rcases hm2 with ⟨rfl, Phm2⟩ | ⟨rfl, Phm2⟩
      · rw [if_pos Phm2] at R549
        obtain ⟨y549, rfl, X549⟩ := R549
        show Go p e below _ (T549.setTop (mkF m 580 _ [(.ref y549)]))
        refine g_astore D549 582 #[.val (.long i0), .second, .val (.long i1_), .second, .val (.int sel), .val (.int sh), .val (.int md1), .val (.int md2), .val (.int i1), .val (.int i2), .val (.int iq), .val (.int eb), .val (.ref ny), .val (.int c0), .val (.int (0 : Int32)), .val (.int (1 : Int32)), .val (.ref a360), .val (.ref y549), .unset] at_580 rfl rfl rfl ?_
        refine g_iload D549 584 at_582 rfl rfl ?_
        refine g_ifY D549 614 at_584 (by decide) (by decide) (by decide) ?_
        refine g_iload D549 616 at_614 rfl rfl ?_
        refine g_ifN D549 619 at_616 (by decide) rfl ?_
        refine g_iload D549 621 at_619 rfl rfl ?_
        refine g_ifN D549 624 at_621 (teq zb0).2 rfl ?_
        refine g_aload D549 626 at_624 rfl rfl rfl ?_
        refine g_aload D549 628 at_626 rfl rfl rfl ?_
        refine g_bipush D549 630 (14 : Int32) at_628 rfl rfl ?_
        have cf552 := (((V540.ext E541).keep K542 (ninS (Nat.ne_of_lt (Nat.lt_of_lt_of_le V540.lt (Nat.le_of_eq g541.symm))) nin0)).ext E549)
        refine g_callSp D549 633 (hw _ w_183) (hw _ w_184) (hw _ w_2) (hw _ w_185) (by decide) ((cTrd l Z a0 hw [] y549 a360 k360 [(.int c0), (.int (59 : Int32)), (.int (32 : Int32)), (.int (own_let i1)), (.int (9 : Int32)), (.int (61 : Int32)), (.int (34 : Int32)), (.int qu497), (.int qu502), (.int (34 : Int32)), (.int (59 : Int32)), (.int (own_let i2)), (.int (32 : Int32)), (.int (61 : Int32)), (.int qu522), (.int se527), (.int se532), (.int se538)] 14 qu522 se527 se532 se538 zc fm h549 n0 (Nat.le_trans cz543 E549.1) (cf544.ext E549) CS hzc SFm rfm X549 cf552 (by decide) rfl rfl rfl rfl).back D549 0 (hw _ w_185) (hw _ w_2) (by decide) (by decide)) rfl [(.ref y549), (.ref a360), (.int (14 : Int32))] rfl (lenOf pd_30 rfl) rfl (Nat.le_of_eq rfl) (by decide) (by decide) at_630 rfl ?_
        intro v553 T553 q553 D553
        subst q553
        show Go p e below _ (T553.setTop (mkF m 633 _ [(.int (1 : Int32))]))
        exact r_Nw D553 hEW hret (by simp) hlk at_633 ⟨own_r1, NF549⟩ (by decide) (by decide)
      · rw [if_neg Phm2] at R549
        obtain rfl := R549
        show Go p e below _ (T549.setTop (mkF m 580 _ [.null]))
        refine g_astore D549 582 #[.val (.long i0), .second, .val (.long i1_), .second, .val (.int sel), .val (.int sh), .val (.int md1), .val (.int md2), .val (.int i1), .val (.int i2), .val (.int iq), .val (.int eb), .val (.ref ny), .val (.int c0), .val (.int (0 : Int32)), .val (.int (0 : Int32)), .val (.ref a360), .val .null, .unset] at_580 rfl rfl rfl ?_
        refine g_iload D549 584 at_582 rfl rfl ?_
        refine g_ifY D549 614 at_584 (by decide) (by decide) (by decide) ?_
        refine g_iload D549 616 at_614 rfl rfl ?_
        refine g_ifY D549 664 at_616 (by decide) (by decide) (by decide) ?_
        refine g_aload D549 666 at_664 rfl rfl rfl ?_
        refine g_nnN D549 669 at_666 rfl ?_
        refine g_iconst D549 670 (1 : Int32) at_669 rfl rfl ?_
        refine g_goto D549 674 at_670 (by decide) (by decide) ?_
        exact r_Nw D549 hEW hret (by simp) hlk at_674 ⟨own_r1, NF549⟩ (by decide) (by decide)
  refine g_ifY D511 509 at_448 (feq zb0).2 (by decide) (by decide) ?_
  refine g_aload D511 511 at_509 rfl rfl rfl ?_
  refine g_bipush D511 513 (14 : Int32) at_511 rfl rfl ?_
  refine g_bipush D511 515 (34 : Int32) at_513 rfl rfl ?_
  refine g_castore D511 516 V511 ⟨by decide, by decide⟩ 14 (by decide) (Nat.le_of_ble_eq_true rfl) (fun _ W => D511.iv.wr (Safe.arv D511.wm.alike V511 (by decide)) W) at_515 rfl ?_
  intro T554 h554 W554 V554 D554
  rw [nar_c (by decide)] at V554
  replace V554 : Arv Z h554 a360 k360 .char (18 : Int32) [(.int c0), (.int (59 : Int32)), (.int (32 : Int32)), (.int (own_let i1)), (.int (9 : Int32)), (.int (61 : Int32)), (.int (34 : Int32)), (.int qu497), (.int qu502), (.int (34 : Int32)), (.int (59 : Int32)), (.int (own_let i2)), (.int (32 : Int32)), (.int (61 : Int32)), (.int (34 : Int32)), (.int (0 : Int32)), (.int (0 : Int32)), (.int (0 : Int32))] (.int (0 : Int32)) := V554
  have N554 := Fr.snoc D554.st N511 (Nat.le_trans (Nat.le_trans Z0 E312.1) (Nat.le_of_eq g360.symm))
  refine g_aload D554 518 at_516 rfl rfl rfl ?_
  refine g_bipush D554 520 (15 : Int32) at_518 rfl rfl ?_
  refine g_lloadN D554 521 at_520 rfl rfl ?_
  refine g_iconst D554 522 (1 : Int32) at_521 rfl rfl ?_
  refine g_callSp D554 525 (hw _ w_30) (hw _ w_31) (hw _ w_2) (hw _ w_32) (by decide) ((cCh l Z a0 hw [] _ _ h554 n0 (Nat.le_trans cz517 (Keep.of_wr W554).1)).back D554 2 (hw _ w_32) (hw _ w_2) (by decide) (by decide)) rfl [(.long i1_), (.int (1 : Int32))] rfl (lenOf pd_26 rfl) rfl (Nat.le_of_eq rfl) (by decide) (by decide) at_522 rfl ?_
  intro v556 T556 q556 D556
  obtain ⟨ch555, rfl, bch555⟩ := q556
  show Go p e below _ (T556.setTop (mkF m 525 _ [(.int ch555), (.int (15 : Int32)), (.ref a360)]))
  refine g_callSp D556 528 (hw _ w_39) (hw _ w_40) (hw _ w_2) (hw _ w_41) (by decide) ((cQuo l Z a0 hw [] ch555 h554 n0 (Nat.le_trans cz517 (Keep.of_wr W554).1) bch555).back D556 2 (hw _ w_41) (hw _ w_2) (by decide) (by decide)) rfl [(.int ch555)] rfl (lenOf pd_29 rfl) rfl (Nat.le_of_eq rfl) (by decide) (by decide) at_525 rfl ?_
  intro v558 T558 q558 D558
  obtain ⟨qu557, rfl, bqu557, nqu557, oqu557⟩ := q558
  show Go p e below _ (T558.setTop (mkF m 528 _ [(.int qu557), (.int (15 : Int32)), (.ref a360)]))
  refine g_castore D558 529 V554 ⟨by decide, by decide⟩ 15 (by decide) (Nat.le_of_ble_eq_true rfl) (fun _ W => D558.iv.wr (Safe.arv D558.wm.alike V554 (by decide)) W) at_528 rfl ?_
  intro T559 h559 W559 V559 D559
  rw [nar_c bqu557] at V559
  replace V559 : Arv Z h559 a360 k360 .char (18 : Int32) [(.int c0), (.int (59 : Int32)), (.int (32 : Int32)), (.int (own_let i1)), (.int (9 : Int32)), (.int (61 : Int32)), (.int (34 : Int32)), (.int qu497), (.int qu502), (.int (34 : Int32)), (.int (59 : Int32)), (.int (own_let i2)), (.int (32 : Int32)), (.int (61 : Int32)), (.int (34 : Int32)), (.int qu557), (.int (0 : Int32)), (.int (0 : Int32))] (.int (0 : Int32)) := V559
  have N559 := Fr.snoc D559.st N554 (Nat.le_trans (Nat.le_trans Z0 E312.1) (Nat.le_of_eq g360.symm))
  refine g_aload D559 531 at_529 rfl rfl rfl ?_
  refine g_bipush D559 533 (16 : Int32) at_531 rfl rfl ?_
  refine g_lloadN D559 534 at_533 rfl rfl ?_
  refine g_iconst D559 535 (2 : Int32) at_534 rfl rfl ?_
  refine g_callSp D559 538 (hw _ w_30) (hw _ w_31) (hw _ w_2) (hw _ w_32) (by decide) ((cCh l Z a0 hw [] _ _ h559 n0 (Nat.le_trans (Nat.le_trans cz517 (Keep.of_wr W554).1) (Keep.of_wr W559).1)).back D559 2 (hw _ w_32) (hw _ w_2) (by decide) (by decide)) rfl [(.long i1_), (.int (2 : Int32))] rfl (lenOf pd_26 rfl) rfl (Nat.le_of_eq rfl) (by decide) (by decide) at_535 rfl ?_
  intro v561 T561 q561 D561
  obtain ⟨ch560, rfl, bch560⟩ := q561
  show Go p e below _ (T561.setTop (mkF m 538 _ [(.int ch560), (.int (16 : Int32)), (.ref a360)]))
  refine g_callSp D561 541 (hw _ w_39) (hw _ w_40) (hw _ w_2) (hw _ w_41) (by decide) ((cQuo l Z a0 hw [] ch560 h559 n0 (Nat.le_trans (Nat.le_trans cz517 (Keep.of_wr W554).1) (Keep.of_wr W559).1) bch560).back D561 2 (hw _ w_41) (hw _ w_2) (by decide) (by decide)) rfl [(.int ch560)] rfl (lenOf pd_29 rfl) rfl (Nat.le_of_eq rfl) (by decide) (by decide) at_538 rfl ?_
  intro v563 T563 q563 D563
  obtain ⟨qu562, rfl, bqu562, nqu562, oqu562⟩ := q563
  show Go p e below _ (T563.setTop (mkF m 541 _ [(.int qu562), (.int (16 : Int32)), (.ref a360)]))
  refine g_castore D563 542 V559 ⟨by decide, by decide⟩ 16 (by decide) (Nat.le_of_ble_eq_true rfl) (fun _ W => D563.iv.wr (Safe.arv D563.wm.alike V559 (by decide)) W) at_541 rfl ?_
  intro T564 h564 W564 V564 D564
  rw [nar_c bqu562] at V564
  replace V564 : Arv Z h564 a360 k360 .char (18 : Int32) [(.int c0), (.int (59 : Int32)), (.int (32 : Int32)), (.int (own_let i1)), (.int (9 : Int32)), (.int (61 : Int32)), (.int (34 : Int32)), (.int qu497), (.int qu502), (.int (34 : Int32)), (.int (59 : Int32)), (.int (own_let i2)), (.int (32 : Int32)), (.int (61 : Int32)), (.int (34 : Int32)), (.int qu557), (.int qu562), (.int (0 : Int32))] (.int (0 : Int32)) := V564
  have N564 := Fr.snoc D564.st N559 (Nat.le_trans (Nat.le_trans Z0 E312.1) (Nat.le_of_eq g360.symm))
  refine g_aload D564 544 at_542 rfl rfl rfl ?_
  refine g_bipush D564 546 (17 : Int32) at_544 rfl rfl ?_
  refine g_iload D564 548 at_546 rfl rfl ?_
  refine g_iconst D564 549 (1 : Int32) at_548 rfl rfl ?_
  have cf565 := (((cf512.wr W554 (Nat.le_trans (Nat.le_trans Z0 E312.1) (Nat.le_of_eq g360.symm))).wr W559 (Nat.le_trans (Nat.le_trans Z0 E312.1) (Nat.le_of_eq g360.symm))).wr W564 (Nat.le_trans (Nat.le_trans Z0 E312.1) (Nat.le_of_eq g360.symm)))
  have cf566 := (((cf513.wr W554).wr W559).wr W564)
  have cf567 := (((cf514.other W554 (Or.inl (Nat.ne_of_lt (Nat.lt_of_lt_of_le y1.lt (Nat.le_of_eq g360.symm))))).other W559 (Or.inl (Nat.ne_of_lt (Nat.lt_of_lt_of_le y1.lt (Nat.le_of_eq g360.symm))))).other W564 (Or.inl (Nat.ne_of_lt (Nat.lt_of_lt_of_le y1.lt (Nat.le_of_eq g360.symm)))))
  have cf568 := (((cf515.other W554 (Or.inl (Nat.ne_of_lt (Nat.lt_of_lt_of_le y1.lt (Nat.le_of_eq g360.symm))))).other W559 (Or.inl (Nat.ne_of_lt (Nat.lt_of_lt_of_le y1.lt (Nat.le_of_eq g360.symm))))).other W564 (Or.inl (Nat.ne_of_lt (Nat.lt_of_lt_of_le y1.lt (Nat.le_of_eq g360.symm)))))
  have cf569 := (((cf516.other W554 (Nat.ne_of_lt (Nat.lt_of_lt_of_le y4.lt (Nat.le_of_eq g360.symm)))).other W559 (Nat.ne_of_lt (Nat.lt_of_lt_of_le y4.lt (Nat.le_of_eq g360.symm)))).other W564 (Nat.ne_of_lt (Nat.lt_of_lt_of_le y4.lt (Nat.le_of_eq g360.symm))))
  have cz570 : n0 ≤ h564.size := (Nat.le_trans (Nat.le_trans (Nat.le_trans cz517 (Keep.of_wr W554).1) (Keep.of_wr W559).1) (Keep.of_wr W564).1)
  by_cases zb1 : md2 = (1 : Int32)
  · refine g_icmpN D564 552 at_549 (teq zb1).2 rfl ?_
    refine g_bipush D564 554 (34 : Int32) at_552 rfl rfl ?_
    refine g_goto D564 565 at_554 (by decide) (by decide) ?_
    refine g_castore D564 566 V564 ⟨by decide, by decide⟩ 17 (by decide) (Nat.le_of_ble_eq_true rfl) (fun _ W => D564.iv.wr (Safe.arv D564.wm.alike V564 (by decide)) W) at_565 rfl ?_
    intro T571 h571 W571 V571 D571
    rw [nar_c (by decide)] at V571
    replace V571 : Arv Z h571 a360 k360 .char (18 : Int32) [(.int c0), (.int (59 : Int32)), (.int (32 : Int32)), (.int (own_let i1)), (.int (9 : Int32)), (.int (61 : Int32)), (.int (34 : Int32)), (.int qu497), (.int qu502), (.int (34 : Int32)), (.int (59 : Int32)), (.int (own_let i2)), (.int (32 : Int32)), (.int (61 : Int32)), (.int (34 : Int32)), (.int qu557), (.int qu562), (.int (34 : Int32))] (.int (0 : Int32)) := V571
    have N571 := Fr.snoc D571.st N564 (Nat.le_trans (Nat.le_trans Z0 E312.1) (Nat.le_of_eq g360.symm))
    refine g_newO D571 569 (hw _ w_45) (hw _ w_14) (hw _ w_6) at_566 (by decide) (by decide) (fun _ E => D571.iv.ext E) rfl ?_
    intro T572 h572 a572 g572 E572 A572 N572 D572
    refine g_dup D572 570 at_569 rfl rfl ?_
    refine g_aload D572 572 at_570 rfl rfl rfl ?_
    refine g_callN D572 575 rfl (hw _ w_46) (hw _ w_47) (hw _ w_48) (by decide) (StrChars.Road.backV (W := 1) D572.wm (fun d hd => hw d (wbv d hd)) (kI := 4) (hw _ w_14) (cs := [c0, (59 : Int32), (32 : Int32), (own_let i1), (9 : Int32), (61 : Int32), (34 : Int32), qu497, qu502, (34 : Int32), (59 : Int32), (own_let i2), (32 : Int32), (61 : Int32), (34 : Int32), qu557, qu562, (34 : Int32)]) (bs := ([c0, (59 : Int32), (32 : Int32), (own_let i1), (9 : Int32), (61 : Int32), (34 : Int32), qu497, qu502, (34 : Int32), (59 : Int32), (own_let i2), (32 : Int32), (61 : Int32), (34 : Int32), qu557, qu562, (34 : Int32)].map StrChars.lo8)) (n := 18) (n0 := n0) (Nat.le_trans (Nat.le_trans cz570 (Keep.of_wr W571).1) (Nat.le_of_eq g572.symm)) (Nat.le_trans (Nat.le_trans cz570 (Keep.of_wr W571).1) E572.1) A572 (N572 (Or.inr (hw _ w_27)) (ty := (.array .byte)) (by decide)) (N572 (Or.inr (hw _ w_29)) (ty := .byte) (by decide)) (V571.ext E572) (CS.ext ((cf565.wr W571 (Nat.le_trans (Nat.le_trans Z0 E312.1) (Nat.le_of_eq g360.symm))).ext E572).2) hzc rfl rfl (by decide) (by decide) (b8_cons bc0 (b8_cons (by decide) (b8_cons (by decide) (b8_cons (own_isl8 (own_letl i1)).1 (b8_cons (by decide) (b8_cons (by decide) (b8_cons (by decide) (b8_cons bqu497 (b8_cons bqu502 (b8_cons (by decide) (b8_cons (by decide) (b8_cons (own_isl8 (own_letl i2)).1 (b8_cons (by decide) (b8_cons (by decide) (b8_cons (by decide) (b8_cons bqu557 (b8_cons bqu562 (b8_cons (by decide) b8_nil)))))))))))))))))) rfl (by decide) (by decide)) rfl [(.ref a360)] rfl (lenOf pd_28 rfl) rfl (Nat.le_of_eq rfl) (by decide) (by decide) (fun _ _ _ q => D572.iv.keep (sfS (safe_null D572.wm.alike A572 (N572 (Or.inr (hw _ w_27)) (ty := (.array .byte)) (by decide))) sf0) q.2.2.1) at_572 rfl ?_
    intro v573 T573 h573 L573 q573 D573
    obtain ⟨rfl, N573, K573, A573, C573, t573, kb573, -, -, -, Vf573, Va573⟩ := q573
    have NF573 := Fr.app N571 N573
    have X573 : LS Z h573 a572 [c0, (59 : Int32), (32 : Int32), (own_let i1), (9 : Int32), (61 : Int32), (34 : Int32), qu497, qu502, (34 : Int32), (59 : Int32), (own_let i2), (32 : Int32), (61 : Int32), (34 : Int32), qu557, qu562, (34 : Int32)] := ⟨t573, kb573, A573, C573, Vf573, Va573, (b8_cons bc0 (b8_cons (by decide) (b8_cons (by decide) (b8_cons (own_isl8 (own_letl i1)).1 (b8_cons (by decide) (b8_cons (by decide) (b8_cons (by decide) (b8_cons bqu497 (b8_cons bqu502 (b8_cons (by decide) (b8_cons (by decide) (b8_cons (own_isl8 (own_letl i2)).1 (b8_cons (by decide) (b8_cons (by decide) (b8_cons (by decide) (b8_cons bqu557 (b8_cons bqu562 (b8_cons (by decide) b8_nil)))))))))))))))))), Nat.le_of_ble_eq_true rfl⟩
    show Go p e below _ (T573.setTop (mkF m 575 _ [(.ref a572)]))
    refine g_aload D573 577 at_575 rfl rfl rfl ?_
    have cz574 : n0 ≤ h573.size := (Nat.le_trans (Nat.le_trans (Nat.le_trans cz570 (Keep.of_wr W571).1) E572.1) K573.1)
    have cf575 := (((cf565.wr W571 (Nat.le_trans (Nat.le_trans Z0 E312.1) (Nat.le_of_eq g360.symm))).ext E572).keep K573 (allS (Nat.le_trans (Nat.le_trans (Nat.le_trans (Nat.le_trans (Nat.le_trans (Nat.le_trans (Nat.le_trans (Nat.le_trans (Nat.le_trans (Nat.le_trans (Nat.le_trans (Nat.le_trans (Nat.le_trans (Nat.le_trans (Nat.le_trans (Nat.le_trans (Nat.le_trans (Nat.le_trans (Nat.le_trans (Nat.le_trans (Nat.le_trans Z0 E312.1) E360.1) (Keep.of_wr W361).1) (Keep.of_wr W362).1) (Keep.of_wr W363).1) (Keep.of_wr W366).1) (Keep.of_wr W367).1) (Keep.of_wr W368).1) (Keep.of_wr W494).1) (Keep.of_wr W499).1) (Keep.of_wr W504).1) (Keep.of_wr W505).1) (Keep.of_wr W506).1) (Keep.of_wr W509).1) (Keep.of_wr W510).1) (Keep.of_wr W511).1) (Keep.of_wr W554).1) (Keep.of_wr W559).1) (Keep.of_wr W564).1) (Keep.of_wr W571).1) (Nat.le_of_eq g572.symm)) all0))
    have cf576 := (((cf566.wr W571).ext E572).keep K573)
    have cf577 := (((cf567.other W571 (Or.inl (Nat.ne_of_lt (Nat.lt_of_lt_of_le y1.lt (Nat.le_of_eq g360.symm))))).ext E572).keep K573 (ninS (Nat.ne_of_lt (Nat.lt_of_lt_of_le (Nat.lt_of_lt_of_le cf566.lt (Keep.of_wr W571).1) (Nat.le_of_eq g572.symm))) nin0))
    have cf578 := (((cf568.other W571 (Or.inl (Nat.ne_of_lt (Nat.lt_of_lt_of_le y1.lt (Nat.le_of_eq g360.symm))))).ext E572).keep K573 (ninS (Nat.ne_of_lt (Nat.lt_of_lt_of_le (Nat.lt_of_lt_of_le cf566.lt (Keep.of_wr W571).1) (Nat.le_of_eq g572.symm))) nin0))
    have cf579 := (((cf569.other W571 (Nat.ne_of_lt (Nat.lt_of_lt_of_le y4.lt (Nat.le_of_eq g360.symm)))).ext E572).keep K573 (ninS (Nat.ne_of_lt (Nat.lt_of_lt_of_le (Nat.lt_of_lt_of_le cf569.lt (Keep.of_wr W571).1) (Nat.le_of_eq g572.symm))) nin0))
    refine g_callSW D573 580 hEW (hw _ w_34) (hw _ w_35) (hw _ w_36) (hw _ w_37) (by decide) (cP2 l Z a0 hw [] a572 ny c0 (own_let i1) (34 : Int32) qu497 qu502 (34 : Int32) (own_let i2) (34 : Int32) qu557 qu562 (34 : Int32) (own_let iq) zc fm [qu497, qu502] [qu557, qu562] h573 n0 cz574 hEW cf575 CS hzc SFm rfm X573 ⟨nt, nk, cf576, cf577, cf578, cf579, y5, y6⟩ (own_letl i1) (own_letl iq) (own_letl i2) (Or.inr ⟨rfl, rfl, nqu497, nqu502, rfl⟩) (Or.inr (Or.inl ⟨rfl, rfl, nqu557, nqu562, rfl⟩))) rfl [(.ref a572), (.ref ny)] rfl (lenOf pd_27 rfl) rfl 0 (Nat.le_of_eq rfl) (by decide) (by decide) (by decide) (by decide) at_577 rfl ?_
    intro v580 s580 T580 h580 L580 q580 SF580 D580
    obtain ⟨w580, rfl, N580, E580, R580⟩ := q580
    have NF580 := Fr.app NF573 N580
    rcases hm1 with ⟨rfl, Phm1⟩ | ⟨rfl, Phm1⟩
    · rw [if_pos Phm1] at R580
      obtain ⟨y580, rfl, X580⟩ := R580
      show Go p e below _ (T580.setTop (mkF m 580 _ [(.ref y580)]))
      refine g_astore D580 582 #[.val (.long i0), .second, .val (.long i1_), .second, .val (.int sel), .val (.int sh), .val (.int md1), .val (.int md2), .val (.int i1), .val (.int i2), .val (.int iq), .val (.int eb), .val (.ref ny), .val (.int c0), .val (.int (1 : Int32)), .val (.int m2), .val (.ref a360), .val (.ref y580), .unset] at_580 rfl rfl rfl ?_
      refine g_iload D580 584 at_582 rfl rfl ?_
      refine g_ifN D580 587 at_584 (by decide) rfl ?_
      refine g_iload D580 589 at_587 rfl rfl ?_
      refine g_ifY D580 602 at_589 (feq za0).2 (by decide) (by decide) ?_
      refine g_aload D580 604 at_602 rfl rfl rfl ?_
      refine g_aload D580 606 at_604 rfl rfl rfl ?_
      refine g_bipush D580 608 (7 : Int32) at_606 rfl rfl ?_
      refine g_bipush D580 610 (9 : Int32) at_608 rfl rfl ?_
      have cf581 := (((V571.ext E572).keep K573 (ninS (Nat.ne_of_lt (Nat.lt_of_lt_of_le V571.lt (Nat.le_of_eq g572.symm))) nin0)).ext E580)
      refine g_callSp D580 613 (hw _ w_178) (hw _ w_179) (hw _ w_2) (hw _ w_180) (by decide) ((cSame l Z a0 hw [] y580 a360 k360 [(.int c0), (.int (59 : Int32)), (.int (32 : Int32)), (.int (own_let i1)), (.int (9 : Int32)), (.int (61 : Int32)), (.int (34 : Int32)), (.int qu497), (.int qu502), (.int (34 : Int32)), (.int (59 : Int32)), (.int (own_let i2)), (.int (32 : Int32)), (.int (61 : Int32)), (.int (34 : Int32)), (.int qu557), (.int qu562), (.int (34 : Int32))] [qu497, qu502] 7 2 zc fm h580 n0 (Nat.le_trans cz574 E580.1) (cf575.ext E580) CS hzc SFm rfm X580 rfl (by decide) cf581 (by decide) (own_blS (own_blS own_bl0 rfl) rfl)).back D580 0 (hw _ w_180) (hw _ w_2) (by decide) (by decide)) rfl [(.ref y580), (.ref a360), (.int (7 : Int32)), (.int (9 : Int32))] rfl (lenOf pd_20 rfl) rfl (Nat.le_of_eq rfl) (by decide) (by decide) at_610 rfl ?_
      intro v582 T582 q582 D582
      subst q582
      show Go p e below _ (T582.setTop (mkF m 613 _ [(.int (1 : Int32))]))
      exact r_Nw D582 hEW hret (by simp) hlk at_613 ⟨own_r1, NF580⟩ (by decide) (by decide)
    · rw [if_neg Phm1] at R580
      rcases hm2 with ⟨rfl, Phm2⟩ | ⟨rfl, Phm2⟩
      · rw [if_pos Phm2] at R580
        obtain ⟨y580, rfl, X580⟩ := R580
        show Go p e below _ (T580.setTop (mkF m 580 _ [(.ref y580)]))
        refine g_astore D580 582 #[.val (.long i0), .second, .val (.long i1_), .second, .val (.int sel), .val (.int sh), .val (.int md1), .val (.int md2), .val (.int i1), .val (.int i2), .val (.int iq), .val (.int eb), .val (.ref ny), .val (.int c0), .val (.int (0 : Int32)), .val (.int (1 : Int32)), .val (.ref a360), .val (.ref y580), .unset] at_580 rfl rfl rfl ?_
        refine g_iload D580 584 at_582 rfl rfl ?_
        refine g_ifY D580 614 at_584 (by decide) (by decide) (by decide) ?_
        refine g_iload D580 616 at_614 rfl rfl ?_
        refine g_ifN D580 619 at_616 (by decide) rfl ?_
        refine g_iload D580 621 at_619 rfl rfl ?_
        refine g_ifY D580 634 at_621 (feq zb0).2 (by decide) (by decide) ?_
        refine g_iload D580 636 at_634 rfl rfl ?_
        refine g_iconst D580 637 (1 : Int32) at_636 rfl rfl ?_
        refine g_icmpN D580 640 at_637 (teq zb1).2 rfl ?_
        refine g_aload D580 642 at_640 rfl rfl rfl ?_
        refine g_aload D580 644 at_642 rfl rfl rfl ?_
        refine g_bipush D580 646 (15 : Int32) at_644 rfl rfl ?_
        refine g_bipush D580 648 (17 : Int32) at_646 rfl rfl ?_
        have cf583 := (((V571.ext E572).keep K573 (ninS (Nat.ne_of_lt (Nat.lt_of_lt_of_le V571.lt (Nat.le_of_eq g572.symm))) nin0)).ext E580)
        refine g_callSp D580 651 (hw _ w_178) (hw _ w_179) (hw _ w_2) (hw _ w_180) (by decide) ((cSame l Z a0 hw [] y580 a360 k360 [(.int c0), (.int (59 : Int32)), (.int (32 : Int32)), (.int (own_let i1)), (.int (9 : Int32)), (.int (61 : Int32)), (.int (34 : Int32)), (.int qu497), (.int qu502), (.int (34 : Int32)), (.int (59 : Int32)), (.int (own_let i2)), (.int (32 : Int32)), (.int (61 : Int32)), (.int (34 : Int32)), (.int qu557), (.int qu562), (.int (34 : Int32))] [qu557, qu562] 15 2 zc fm h580 n0 (Nat.le_trans cz574 E580.1) (cf575.ext E580) CS hzc SFm rfm X580 rfl (by decide) cf583 (by decide) (own_blS (own_blS own_bl0 rfl) rfl)).back D580 0 (hw _ w_180) (hw _ w_2) (by decide) (by decide)) rfl [(.ref y580), (.ref a360), (.int (15 : Int32)), (.int (17 : Int32))] rfl (lenOf pd_20 rfl) rfl (Nat.le_of_eq rfl) (by decide) (by decide) at_648 rfl ?_
        intro v584 T584 q584 D584
        subst q584
        show Go p e below _ (T584.setTop (mkF m 651 _ [(.int (1 : Int32))]))
        exact r_Nw D584 hEW hret (by simp) hlk at_651 ⟨own_r1, NF580⟩ (by decide) (by decide)
      · rw [if_neg Phm2] at R580
        obtain rfl := R580
        show Go p e below _ (T580.setTop (mkF m 580 _ [.null]))
        refine g_astore D580 582 #[.val (.long i0), .second, .val (.long i1_), .second, .val (.int sel), .val (.int sh), .val (.int md1), .val (.int md2), .val (.int i1), .val (.int i2), .val (.int iq), .val (.int eb), .val (.ref ny), .val (.int c0), .val (.int (0 : Int32)), .val (.int (0 : Int32)), .val (.ref a360), .val .null, .unset] at_580 rfl rfl rfl ?_
        refine g_iload D580 584 at_582 rfl rfl ?_
        refine g_ifY D580 614 at_584 (by decide) (by decide) (by decide) ?_
        refine g_iload D580 616 at_614 rfl rfl ?_
        refine g_ifY D580 664 at_616 (by decide) (by decide) (by decide) ?_
        refine g_aload D580 666 at_664 rfl rfl rfl ?_
        refine g_nnN D580 669 at_666 rfl ?_
        refine g_iconst D580 670 (1 : Int32) at_669 rfl rfl ?_
        refine g_goto D580 674 at_670 (by decide) (by decide) ?_
        exact r_Nw D580 hEW hret (by simp) hlk at_674 ⟨own_r1, NF580⟩ (by decide) (by decide)
  refine g_icmpY D564 557 at_549 (feq zb1).2 (by decide) (by decide) ?_
  refine g_lloadN D564 558 at_557 rfl rfl ?_
  refine g_iconst D564 559 (3 : Int32) at_558 rfl rfl ?_
  refine g_callSp D564 562 (hw _ w_30) (hw _ w_31) (hw _ w_2) (hw _ w_32) (by decide) ((cCh l Z a0 hw [] _ _ h564 n0 cz570).back D564 2 (hw _ w_32) (hw _ w_2) (by decide) (by decide)) rfl [(.long i1_), (.int (3 : Int32))] rfl (lenOf pd_26 rfl) rfl (Nat.le_of_eq rfl) (by decide) (by decide) at_559 rfl ?_
  intro v586 T586 q586 D586
  obtain ⟨ch585, rfl, bch585⟩ := q586
  show Go p e below _ (T586.setTop (mkF m 562 _ [(.int ch585), (.int (17 : Int32)), (.ref a360)]))
  refine g_callSp D586 565 (hw _ w_39) (hw _ w_40) (hw _ w_2) (hw _ w_41) (by decide) ((cQuo l Z a0 hw [] ch585 h564 n0 cz570 bch585).back D586 2 (hw _ w_41) (hw _ w_2) (by decide) (by decide)) rfl [(.int ch585)] rfl (lenOf pd_29 rfl) rfl (Nat.le_of_eq rfl) (by decide) (by decide) at_562 rfl ?_
  intro v588 T588 q588 D588
  obtain ⟨qu587, rfl, bqu587, nqu587, oqu587⟩ := q588
  show Go p e below _ (T588.setTop (mkF m 565 _ [(.int qu587), (.int (17 : Int32)), (.ref a360)]))
  refine g_castore D588 566 V564 ⟨by decide, by decide⟩ 17 (by decide) (Nat.le_of_ble_eq_true rfl) (fun _ W => D588.iv.wr (Safe.arv D588.wm.alike V564 (by decide)) W) at_565 rfl ?_
  intro T589 h589 W589 V589 D589
  rw [nar_c bqu587] at V589
  replace V589 : Arv Z h589 a360 k360 .char (18 : Int32) [(.int c0), (.int (59 : Int32)), (.int (32 : Int32)), (.int (own_let i1)), (.int (9 : Int32)), (.int (61 : Int32)), (.int (34 : Int32)), (.int qu497), (.int qu502), (.int (34 : Int32)), (.int (59 : Int32)), (.int (own_let i2)), (.int (32 : Int32)), (.int (61 : Int32)), (.int (34 : Int32)), (.int qu557), (.int qu562), (.int qu587)] (.int (0 : Int32)) := V589
  have N589 := Fr.snoc D589.st N564 (Nat.le_trans (Nat.le_trans Z0 E312.1) (Nat.le_of_eq g360.symm))
  refine g_newO D589 569 (hw _ w_45) (hw _ w_14) (hw _ w_6) at_566 (by decide) (by decide) (fun _ E => D589.iv.ext E) rfl ?_
  intro T590 h590 a590 g590 E590 A590 N590 D590
  refine g_dup D590 570 at_569 rfl rfl ?_
  refine g_aload D590 572 at_570 rfl rfl rfl ?_
  refine g_callN D590 575 rfl (hw _ w_46) (hw _ w_47) (hw _ w_48) (by decide) (StrChars.Road.backV (W := 1) D590.wm (fun d hd => hw d (wbv d hd)) (kI := 4) (hw _ w_14) (cs := [c0, (59 : Int32), (32 : Int32), (own_let i1), (9 : Int32), (61 : Int32), (34 : Int32), qu497, qu502, (34 : Int32), (59 : Int32), (own_let i2), (32 : Int32), (61 : Int32), (34 : Int32), qu557, qu562, qu587]) (bs := ([c0, (59 : Int32), (32 : Int32), (own_let i1), (9 : Int32), (61 : Int32), (34 : Int32), qu497, qu502, (34 : Int32), (59 : Int32), (own_let i2), (32 : Int32), (61 : Int32), (34 : Int32), qu557, qu562, qu587].map StrChars.lo8)) (n := 18) (n0 := n0) (Nat.le_trans (Nat.le_trans cz570 (Keep.of_wr W589).1) (Nat.le_of_eq g590.symm)) (Nat.le_trans (Nat.le_trans cz570 (Keep.of_wr W589).1) E590.1) A590 (N590 (Or.inr (hw _ w_27)) (ty := (.array .byte)) (by decide)) (N590 (Or.inr (hw _ w_29)) (ty := .byte) (by decide)) (V589.ext E590) (CS.ext ((cf565.wr W589 (Nat.le_trans (Nat.le_trans Z0 E312.1) (Nat.le_of_eq g360.symm))).ext E590).2) hzc rfl rfl (by decide) (by decide) (b8_cons bc0 (b8_cons (by decide) (b8_cons (by decide) (b8_cons (own_isl8 (own_letl i1)).1 (b8_cons (by decide) (b8_cons (by decide) (b8_cons (by decide) (b8_cons bqu497 (b8_cons bqu502 (b8_cons (by decide) (b8_cons (by decide) (b8_cons (own_isl8 (own_letl i2)).1 (b8_cons (by decide) (b8_cons (by decide) (b8_cons (by decide) (b8_cons bqu557 (b8_cons bqu562 (b8_cons bqu587 b8_nil)))))))))))))))))) rfl (by decide) (by decide)) rfl [(.ref a360)] rfl (lenOf pd_28 rfl) rfl (Nat.le_of_eq rfl) (by decide) (by decide) (fun _ _ _ q => D590.iv.keep (sfS (safe_null D590.wm.alike A590 (N590 (Or.inr (hw _ w_27)) (ty := (.array .byte)) (by decide))) sf0) q.2.2.1) at_572 rfl ?_
  intro v591 T591 h591 L591 q591 D591
  obtain ⟨rfl, N591, K591, A591, C591, t591, kb591, -, -, -, Vf591, Va591⟩ := q591
  have NF591 := Fr.app N589 N591
  have X591 : LS Z h591 a590 [c0, (59 : Int32), (32 : Int32), (own_let i1), (9 : Int32), (61 : Int32), (34 : Int32), qu497, qu502, (34 : Int32), (59 : Int32), (own_let i2), (32 : Int32), (61 : Int32), (34 : Int32), qu557, qu562, qu587] := ⟨t591, kb591, A591, C591, Vf591, Va591, (b8_cons bc0 (b8_cons (by decide) (b8_cons (by decide) (b8_cons (own_isl8 (own_letl i1)).1 (b8_cons (by decide) (b8_cons (by decide) (b8_cons (by decide) (b8_cons bqu497 (b8_cons bqu502 (b8_cons (by decide) (b8_cons (by decide) (b8_cons (own_isl8 (own_letl i2)).1 (b8_cons (by decide) (b8_cons (by decide) (b8_cons (by decide) (b8_cons bqu557 (b8_cons bqu562 (b8_cons bqu587 b8_nil)))))))))))))))))), Nat.le_of_ble_eq_true rfl⟩
  show Go p e below _ (T591.setTop (mkF m 575 _ [(.ref a590)]))
  refine g_aload D591 577 at_575 rfl rfl rfl ?_
  have cz592 : n0 ≤ h591.size := (Nat.le_trans (Nat.le_trans (Nat.le_trans cz570 (Keep.of_wr W589).1) E590.1) K591.1)
  have cf593 := (((cf565.wr W589 (Nat.le_trans (Nat.le_trans Z0 E312.1) (Nat.le_of_eq g360.symm))).ext E590).keep K591 (allS (Nat.le_trans (Nat.le_trans (Nat.le_trans (Nat.le_trans (Nat.le_trans (Nat.le_trans (Nat.le_trans (Nat.le_trans (Nat.le_trans (Nat.le_trans (Nat.le_trans (Nat.le_trans (Nat.le_trans (Nat.le_trans (Nat.le_trans (Nat.le_trans (Nat.le_trans (Nat.le_trans (Nat.le_trans (Nat.le_trans (Nat.le_trans Z0 E312.1) E360.1) (Keep.of_wr W361).1) (Keep.of_wr W362).1) (Keep.of_wr W363).1) (Keep.of_wr W366).1) (Keep.of_wr W367).1) (Keep.of_wr W368).1) (Keep.of_wr W494).1) (Keep.of_wr W499).1) (Keep.of_wr W504).1) (Keep.of_wr W505).1) (Keep.of_wr W506).1) (Keep.of_wr W509).1) (Keep.of_wr W510).1) (Keep.of_wr W511).1) (Keep.of_wr W554).1) (Keep.of_wr W559).1) (Keep.of_wr W564).1) (Keep.of_wr W589).1) (Nat.le_of_eq g590.symm)) all0))
  have cf594 := (((cf566.wr W589).ext E590).keep K591)
  have cf595 := (((cf567.other W589 (Or.inl (Nat.ne_of_lt (Nat.lt_of_lt_of_le y1.lt (Nat.le_of_eq g360.symm))))).ext E590).keep K591 (ninS (Nat.ne_of_lt (Nat.lt_of_lt_of_le (Nat.lt_of_lt_of_le cf566.lt (Keep.of_wr W589).1) (Nat.le_of_eq g590.symm))) nin0))
  have cf596 := (((cf568.other W589 (Or.inl (Nat.ne_of_lt (Nat.lt_of_lt_of_le y1.lt (Nat.le_of_eq g360.symm))))).ext E590).keep K591 (ninS (Nat.ne_of_lt (Nat.lt_of_lt_of_le (Nat.lt_of_lt_of_le cf566.lt (Keep.of_wr W589).1) (Nat.le_of_eq g590.symm))) nin0))
  have cf597 := (((cf569.other W589 (Nat.ne_of_lt (Nat.lt_of_lt_of_le y4.lt (Nat.le_of_eq g360.symm)))).ext E590).keep K591 (ninS (Nat.ne_of_lt (Nat.lt_of_lt_of_le (Nat.lt_of_lt_of_le cf569.lt (Keep.of_wr W589).1) (Nat.le_of_eq g590.symm))) nin0))
  refine g_callSW D591 580 hEW (hw _ w_34) (hw _ w_35) (hw _ w_36) (hw _ w_37) (by decide) (cP2 l Z a0 hw [] a590 ny c0 (own_let i1) (34 : Int32) qu497 qu502 (34 : Int32) (own_let i2) (34 : Int32) qu557 qu562 qu587 (own_let iq) zc fm [qu497, qu502] [qu557, qu562, qu587] h591 n0 cz592 hEW cf593 CS hzc SFm rfm X591 ⟨nt, nk, cf594, cf595, cf596, cf597, y5, y6⟩ (own_letl i1) (own_letl iq) (own_letl i2) (Or.inr ⟨rfl, rfl, nqu497, nqu502, rfl⟩) (Or.inr (Or.inr ⟨rfl, nqu557, nqu562, nqu587, rfl⟩))) rfl [(.ref a590), (.ref ny)] rfl (lenOf pd_27 rfl) rfl 0 (Nat.le_of_eq rfl) (by decide) (by decide) (by decide) (by decide) at_577 rfl ?_
  intro v598 s598 T598 h598 L598 q598 SF598 D598
  obtain ⟨w598, rfl, N598, E598, R598⟩ := q598
  have NF598 := Fr.app NF591 N598
  rcases hm1 with ⟨rfl, Phm1⟩ | ⟨rfl, Phm1⟩
  · rw [if_pos Phm1] at R598
    obtain ⟨y598, rfl, X598⟩ := R598
    show Go p e below _ (T598.setTop (mkF m 580 _ [(.ref y598)]))
    refine g_astore D598 582 #[.val (.long i0), .second, .val (.long i1_), .second, .val (.int sel), .val (.int sh), .val (.int md1), .val (.int md2), .val (.int i1), .val (.int i2), .val (.int iq), .val (.int eb), .val (.ref ny), .val (.int c0), .val (.int (1 : Int32)), .val (.int m2), .val (.ref a360), .val (.ref y598), .unset] at_580 rfl rfl rfl ?_
    refine g_iload D598 584 at_582 rfl rfl ?_
    refine g_ifN D598 587 at_584 (by decide) rfl ?_
    refine g_iload D598 589 at_587 rfl rfl ?_
    refine g_ifY D598 602 at_589 (feq za0).2 (by decide) (by decide) ?_
    refine g_aload D598 604 at_602 rfl rfl rfl ?_
    refine g_aload D598 606 at_604 rfl rfl rfl ?_
    refine g_bipush D598 608 (7 : Int32) at_606 rfl rfl ?_
    refine g_bipush D598 610 (9 : Int32) at_608 rfl rfl ?_
    have cf599 := (((V589.ext E590).keep K591 (ninS (Nat.ne_of_lt (Nat.lt_of_lt_of_le V589.lt (Nat.le_of_eq g590.symm))) nin0)).ext E598)
    refine g_callSp D598 613 (hw _ w_178) (hw _ w_179) (hw _ w_2) (hw _ w_180) (by decide) ((cSame l Z a0 hw [] y598 a360 k360 [(.int c0), (.int (59 : Int32)), (.int (32 : Int32)), (.int (own_let i1)), (.int (9 : Int32)), (.int (61 : Int32)), (.int (34 : Int32)), (.int qu497), (.int qu502), (.int (34 : Int32)), (.int (59 : Int32)), (.int (own_let i2)), (.int (32 : Int32)), (.int (61 : Int32)), (.int (34 : Int32)), (.int qu557), (.int qu562), (.int qu587)] [qu497, qu502] 7 2 zc fm h598 n0 (Nat.le_trans cz592 E598.1) (cf593.ext E598) CS hzc SFm rfm X598 rfl (by decide) cf599 (by decide) (own_blS (own_blS own_bl0 rfl) rfl)).back D598 0 (hw _ w_180) (hw _ w_2) (by decide) (by decide)) rfl [(.ref y598), (.ref a360), (.int (7 : Int32)), (.int (9 : Int32))] rfl (lenOf pd_20 rfl) rfl (Nat.le_of_eq rfl) (by decide) (by decide) at_610 rfl ?_
    intro v600 T600 q600 D600
    subst q600
    show Go p e below _ (T600.setTop (mkF m 613 _ [(.int (1 : Int32))]))
    exact r_Nw D600 hEW hret (by simp) hlk at_613 ⟨own_r1, NF598⟩ (by decide) (by decide)
  · rw [if_neg Phm1] at R598
    rcases hm2 with ⟨rfl, Phm2⟩ | ⟨rfl, Phm2⟩
    · rw [if_pos Phm2] at R598
      obtain ⟨y598, rfl, X598⟩ := R598
      show Go p e below _ (T598.setTop (mkF m 580 _ [(.ref y598)]))
      refine g_astore D598 582 #[.val (.long i0), .second, .val (.long i1_), .second, .val (.int sel), .val (.int sh), .val (.int md1), .val (.int md2), .val (.int i1), .val (.int i2), .val (.int iq), .val (.int eb), .val (.ref ny), .val (.int c0), .val (.int (0 : Int32)), .val (.int (1 : Int32)), .val (.ref a360), .val (.ref y598), .unset] at_580 rfl rfl rfl ?_
      refine g_iload D598 584 at_582 rfl rfl ?_
      refine g_ifY D598 614 at_584 (by decide) (by decide) (by decide) ?_
      refine g_iload D598 616 at_614 rfl rfl ?_
      refine g_ifN D598 619 at_616 (by decide) rfl ?_
      refine g_iload D598 621 at_619 rfl rfl ?_
      refine g_ifY D598 634 at_621 (feq zb0).2 (by decide) (by decide) ?_
      refine g_iload D598 636 at_634 rfl rfl ?_
      refine g_iconst D598 637 (1 : Int32) at_636 rfl rfl ?_
      refine g_icmpY D598 652 at_637 (feq zb1).2 (by decide) (by decide) ?_
      refine g_aload D598 654 at_652 rfl rfl rfl ?_
      refine g_aload D598 656 at_654 rfl rfl rfl ?_
      refine g_bipush D598 658 (15 : Int32) at_656 rfl rfl ?_
      refine g_bipush D598 660 (18 : Int32) at_658 rfl rfl ?_
      have cf601 := (((V589.ext E590).keep K591 (ninS (Nat.ne_of_lt (Nat.lt_of_lt_of_le V589.lt (Nat.le_of_eq g590.symm))) nin0)).ext E598)
      refine g_callSp D598 663 (hw _ w_178) (hw _ w_179) (hw _ w_2) (hw _ w_180) (by decide) ((cSame l Z a0 hw [] y598 a360 k360 [(.int c0), (.int (59 : Int32)), (.int (32 : Int32)), (.int (own_let i1)), (.int (9 : Int32)), (.int (61 : Int32)), (.int (34 : Int32)), (.int qu497), (.int qu502), (.int (34 : Int32)), (.int (59 : Int32)), (.int (own_let i2)), (.int (32 : Int32)), (.int (61 : Int32)), (.int (34 : Int32)), (.int qu557), (.int qu562), (.int qu587)] [qu557, qu562, qu587] 15 3 zc fm h598 n0 (Nat.le_trans cz592 E598.1) (cf593.ext E598) CS hzc SFm rfm X598 rfl (by decide) cf601 (by decide) (own_blS (own_blS (own_blS own_bl0 rfl) rfl) rfl)).back D598 0 (hw _ w_180) (hw _ w_2) (by decide) (by decide)) rfl [(.ref y598), (.ref a360), (.int (15 : Int32)), (.int (18 : Int32))] rfl (lenOf pd_20 rfl) rfl (Nat.le_of_eq rfl) (by decide) (by decide) at_660 rfl ?_
      intro v602 T602 q602 D602
      subst q602
      show Go p e below _ (T602.setTop (mkF m 663 _ [(.int (1 : Int32))]))
      exact r_Nw D602 hEW hret (by simp) hlk at_663 ⟨own_r1, NF598⟩ (by decide) (by decide)
    · rw [if_neg Phm2] at R598
      obtain rfl := R598
      show Go p e below _ (T598.setTop (mkF m 580 _ [.null]))
      refine g_astore D598 582 #[.val (.long i0), .second, .val (.long i1_), .second, .val (.int sel), .val (.int sh), .val (.int md1), .val (.int md2), .val (.int i1), .val (.int i2), .val (.int iq), .val (.int eb), .val (.ref ny), .val (.int c0), .val (.int (0 : Int32)), .val (.int (0 : Int32)), .val (.ref a360), .val .null, .unset] at_580 rfl rfl rfl ?_
      refine g_iload D598 584 at_582 rfl rfl ?_
      refine g_ifY D598 614 at_584 (by decide) (by decide) (by decide) ?_
      refine g_iload D598 616 at_614 rfl rfl ?_
      refine g_ifY D598 664 at_616 (by decide) (by decide) (by decide) ?_
      refine g_aload D598 666 at_664 rfl rfl rfl ?_
      refine g_nnN D598 669 at_666 rfl ?_
      refine g_iconst D598 670 (1 : Int32) at_669 rfl rfl ?_
      refine g_goto D598 674 at_670 (by decide) (by decide) ?_
      exact r_Nw D598 hEW hret (by simp) hlk at_674 ⟨own_r1, NF598⟩ (by decide) (by decide)
theorem comes_1 {Post : Tables → Env → Array Value → State → Outcome → State → Prop} (hpost : ∀ tb e args s v u, (limb_1_1.after args s (.returned v) u = true ∧ limb_1_2.after args s (.returned v) u = true ∧ True) → ReturnedEndW s (.returned v) u (Jvm.fieldLocs frame_1_writes args s ++ Jvm.arrayLocs frame_1_arrays args s ++ Jvm.staticLocs frame_1_statics s) 56 1344 → Post tb e args s (.returned v) u) :
    ArmFor flags0 classFile x code maxLocals ret World_1 tables_1 room_1 Calls_1 rest_1 Pre_1 Post := by
  intro l hfl _ _ p e ha hc hk s m args below hf hA hF happ hP
  obtain ⟨hcalls, hrest, hpre⟩ := hP
  obtain ⟨-, -, -, hnamed, -, -, -, hat⟩ := (Spec.applies_iff hf).mp happ
  obtain ⟨hg, hn⟩ := and_e (Cond.before_iff.mp (show (Jvm.Cond.and given_1 narrow_1).before args s = true from hpre))
  obtain ⟨g1, gr1⟩ := and_e hg
  obtain ⟨g2, gr2⟩ := and_e gr1
  obtain ⟨g3, g4⟩ := and_e gr2
  obtain ⟨w0, w1, w2, rfl⟩ : ∃ w0 w1 w2 : Value, args = #[w0, w1, w2] := by
    have hs : args.size = 3 := by simpa [Cond.value, given_1] using g1
    obtain ⟨L⟩ := args
    match L, hs with
    | [w0, w1, w2], _ => exact ⟨w0, w1, w2, rfl⟩
  have hw := fun d (hd : d ∈ tables_1) => atoms_spec (ws := Jvm.Cond.code x code maxLocals ret :: tables_1) hat d (List.mem_cons_of_mem _ hd)
  obtain ⟨hsets, hown0⟩ := atoms_of _ (rest_1_c_eq ▸ (show rest_1_c.before _ s = true from hrest))
  have hfit : Fit s := fun {y c} hc i hi => by
    obtain ⟨ha, rfl⟩ := Array.getElem?_eq_some_iff.mp hc
    have q := List.all_eq_true.mp ((Array.all_eq_true_iff_forall_mem.mp hF) _ (Array.getElem_mem ha)) i (List.mem_range.mpr hi)
    simpa [Array.getElem?_eq_getElem hi] using q
  have c3 := not_v (Cond.before_iff.mp (hsets _ (List.mem_of_getElem? (i := 2) rfl)))
  obtain ⟨i0, ei0⟩ := isL_v g2
  obtain rfl : w0 = (.long i0) := Option.some.inj ei0
  obtain ⟨i1, ei1⟩ := isL_v g3
  obtain rfl : w1 = (.long i1) := Option.some.inj ei1
  obtain ⟨i2, ei2⟩ := is_v g4
  obtain rfl : w2 = (.int i2) := Option.some.inj ei2
  obtain ⟨zc, ec⟩ := is_v (Cond.before_iff.mp (hsets _ (List.mem_of_getElem? (i := 1) rfl)))
  have CS : Sta s s.heap "java/lang/String" "COMPACT_STRINGS" "Z" (.int zc) := Sta.start ec (Or.inl (hsets _ (List.mem_of_getElem? (i := 0) rfl)))
  have hzc : ¬ (zc = (0 : Int32)) := gotF (Cond.eq_ints ec (Term.int_eval (0))) c3
  obtain ⟨fm, ef, rfm⟩ := isR_v (Cond.before_iff.mp (hsets _ (List.mem_of_getElem? (i := 8) rfl)))
  have SF : Sta s s.heap "jdk/internal/util/Preconditions" "SIOOBE_FORMATTER" "Ljava/util/function/BiFunction;" fm := Sta.start ef (Or.inl (hsets _ (List.mem_of_getElem? (i := 7) rfl)))
  have hEW : EW s _ consts_1 := (EW.cons (hw _ w_193) (by decide) EW.nil)
  have hCH : CHv s consts_1 s.vm s.heap := CHv.start hEW hcalls.1 (hsets _ (List.mem_of_getElem? (i := 2) rfl)) (hw _ w_18) (hw _ w_14)
  obtain ⟨n, o, h1, h2, h3, _, L, rfl, ⟨rfl, N⟩, -, hq⟩ := cX l s _ hw tables_1 i0 i1 i2 zc fm s.heap s.heap.size (Nat.le_refl _) hEW (Old.start s) CS hzc SF rfm p e ha hc hk s m _ below hf ((Spec.applies_iff_loose hf).mp happ).1 ⟨rfl, State.Warmed39.refl s, rfl, hCH⟩ trivial
  refine ⟨n, _, h1, h2, h3, hpost _ _ _ _ _ _ ⟨Cond.after_iff.mpr rfl, Cond.after_iff.mpr (eq_i res_at (Term.int_eval (1)) rfl), trivial⟩ ⟨hq.1, hq.2.1, hq.2.2.1, (hq.2.2.2.sift fun y hy => Or.inr (N y hy)).mono (by decide) (by decide)⟩⟩
theorem main_1_1 : Claimed_1_1 := comes_1 fun _ _ _ _ _ _ h hF => ⟨h.1, hF⟩
theorem main_1_2 : Claimed_1_2 := comes_1 fun _ _ _ _ _ _ h hF => ⟨h.2.1, hF⟩
end Jvm.Pilot.@@N@@
namespace Jvm.Pilot.@@N@@
open Jvm Jvm.ClassFile Sem Op Lib Jvm.Free Jvm.Stand Jvm.Pilot.@@N@@.Jvm.D
/-! MADE BY PROGRAM (witnessworld.py) out of the Statement's table words and the real class files: 23 classes; the members and pool entries that the words name. The judged class is class 1, her method 1. -/
namespace start1
open Jvm.ClassFile
def u (s : String) : CpInfo := .utf8 (stringToUtf16 s)
/-- a pool by its gaps: so many unusable entries, then the entry; so many at the end -/
def gap : Nat → List CpInfo → List CpInfo
  | 0, r => r
  | n + 1, r => .unusable :: gap n r
def poolList (es : List (Nat × CpInfo)) (last : Nat) : List CpInfo := es.foldr (fun e r => gap e.1 (e.2 :: r)) (gap last [])
def pool (es : List (Nat × CpInfo)) (last : Nat) : Array CpInfo := ⟨poolList es last⟩
def fileOf (pool : Array CpInfo) (this : Nat) (attrs : Array Attribute := #[]) (ms : Array MethodInfo := #[]) (fl : Nat := 33) (sup : Nat := 0) (ifs : Array Nat := #[]) (fds : Array FieldInfo := #[]) : ClassFile where
  minorVersion := 0
  majorVersion := 65
  constantPool := pool
  accessFlags := fl
  thisClass := this
  superClass := sup
  interfaces := ifs
  fields := fds
  methods := ms
  attributes := attrs
def plain (name : String) (sup : Option ClassId) : Class where
  name := name
  kind := .ordinary
  loader := none
  accessFlags := 33
  super := sup
  interfaces := #[]
  cf := none
  fields := #[]
  methods := #[]
  instanceTypes := #[]
  staticTypes := #[]
  resolved := #[]
  callSites := []
  init := .initialized
  statics := none
  mirror := none

def pool0 : Array CpInfo := pool [(5, u "<init>"), (0, u "()V"), (1, .class_ 10), (1, u "java/lang/Object")] 113

def k0c0 : Code := { maxStack := 0, maxLocals := 1, code := object_method_1_code, exceptionTable := #[], attributes := #[] }
def k0m0 : Method := { name := "<init>", desc := "()V", sig := { parameters := [], returnType := none }, accessFlags := 1, code := some k0c0 }
/-- java/lang/Object -/
def k0 : Class := { plain "java/lang/Object" none with
  accessFlags := 33
  interfaces := #[]
  cf := some (fileOf pool0 8 #[] #[{ accessFlags := 1, nameIndex := 5, descriptorIndex := 6, attributes := #[] }] 33 0 #[] #[])
  fields := #[]
  methods := #[k0m0]
  instanceTypes := #[]
  staticTypes := #[]
  resolved := Array.replicate 124 none
  statics := none }

def pool1 : Array CpInfo := pool [(2, .class_ 4), (1, u "java/lang/Object"), (0, u "<init>"), (0, u "()V"), (0, .methodref 8 9), (0, .class_ 10), (0, .nameAndType 11 12), (0, u "com/example/same_answer/sameanswer/MediaTypeParameterPinLaw"), (0, u "letter"), (0, u "(I)C"), (0, .methodref 14 15), (0, .class_ 16), (0, .nameAndType 17 18), (0, u "java/lang/String"), (0, u "valueOf"), (0, u "(C)Ljava/lang/String;"), (0, .methodref 8 20), (0, .nameAndType 21 22), (0, u "ch"), (0, u "(JI)C"), (0, .methodref 24 25), (0, .class_ 26), (0, .nameAndType 27 28), (0, u "com/example/same_answer/sameanswer/MediaType"), (0, u "parameter"), (0, u "(Ljava/lang/String;Ljava/lang/String;)Ljava/lang/String;"), (0, .methodref 14 30), (0, .nameAndType 5 31), (0, u "([C)V"), (0, .methodref 14 33), (0, .nameAndType 34 35), (0, u "isEmpty"), (0, u "()Z"), (0, .methodref 8 37), (0, .nameAndType 38 39), (0, u "noSemi"), (0, u "(C)C"), (0, .methodref 8 41), (0, .nameAndType 42 39), (0, u "noQuote"), (0, .methodref 8 44), (0, .nameAndType 45 46), (0, u "trimmed"), (0, u "(Ljava/lang/String;[CI)Z"), (0, .methodref 8 48), (0, .nameAndType 49 50), (0, u "same"), (0, u "(Ljava/lang/String;[CII)Z"), (0, .long 255), (1, .methodref 8 54), (0, .nameAndType 55 56), (0, u "lo4"), (0, u "([CI)I"), (0, .methodref 8 58), (0, .nameAndType 59 56), (0, u "hi4"), (0, .methodref 61 62), (0, .class_ 63), (0, .nameAndType 64 65), (0, u "java/lang/Math"), (0, u "max"), (0, u "(II)I"), (0, .methodref 14 67), (0, .nameAndType 68 69), (0, u "length"), (0, u "()I"), (0, .methodref 14 71), (0, .nameAndType 72 12), (0, u "charAt"), (2, u "law"), (0, u "(JJI)Z")] 5

def k1m0 : Method := { name := "<init>", desc := "()V", sig := { parameters := [], returnType := none }, accessFlags := 2, code := none }
def k1c1 : Code := { maxStack := 5, maxLocals := 19, code := code, exceptionTable := #[], attributes := #[] }
def k1m1 : Method := { name := "law", desc := "(JJI)Z", sig := { parameters := [.long, .long, .int], returnType := some .boolean }, accessFlags := 9, code := some k1c1 }
def k1c2 : Code := { maxStack := 4, maxLocals := 3, code := method_3_code, exceptionTable := #[], attributes := #[] }
def k1m2 : Method := { name := "ch", desc := "(JI)C", sig := { parameters := [.long, .int], returnType := some .char }, accessFlags := 10, code := some k1c2 }
def k1c3 : Code := { maxStack := 2, maxLocals := 1, code := method_4_code, exceptionTable := #[], attributes := #[] }
def k1m3 : Method := { name := "letter", desc := "(I)C", sig := { parameters := [.int], returnType := some .char }, accessFlags := 10, code := some k1c3 }
def k1c4 : Code := { maxStack := 2, maxLocals := 1, code := method_5_code, exceptionTable := #[], attributes := #[] }
def k1m4 : Method := { name := "noSemi", desc := "(C)C", sig := { parameters := [.char], returnType := some .char }, accessFlags := 10, code := some k1c4 }
def k1c5 : Code := { maxStack := 2, maxLocals := 1, code := method_6_code, exceptionTable := #[], attributes := #[] }
def k1m5 : Method := { name := "noQuote", desc := "(C)C", sig := { parameters := [.char], returnType := some .char }, accessFlags := 10, code := some k1c5 }
def k1c6 : Code := { maxStack := 3, maxLocals := 2, code := method_7_code, exceptionTable := #[], attributes := #[] }
def k1m6 : Method := { name := "lo4", desc := "([CI)I", sig := { parameters := [(.array .char), .int], returnType := some .int }, accessFlags := 10, code := some k1c6 }
def k1c7 : Code := { maxStack := 3, maxLocals := 2, code := method_8_code, exceptionTable := #[], attributes := #[] }
def k1m7 : Method := { name := "hi4", desc := "([CI)I", sig := { parameters := [(.array .char), .int], returnType := some .int }, accessFlags := 10, code := some k1c7 }
def k1c8 : Code := { maxStack := 5, maxLocals := 5, code := method_9_code, exceptionTable := #[], attributes := #[] }
def k1m8 : Method := { name := "trimmed", desc := "(Ljava/lang/String;[CI)Z", sig := { parameters := [(.object "java/lang/String"), (.array .char), .int], returnType := some .boolean }, accessFlags := 10, code := some k1c8 }
def k1c9 : Code := { maxStack := 4, maxLocals := 5, code := method_10_code, exceptionTable := #[], attributes := #[] }
def k1m9 : Method := { name := "same", desc := "(Ljava/lang/String;[CII)Z", sig := { parameters := [(.object "java/lang/String"), (.array .char), .int, .int], returnType := some .boolean }, accessFlags := 10, code := some k1c9 }
/-- com/example/same_answer/sameanswer/MediaTypeParameterPinLaw -/
def k1 : Class := { plain "com/example/same_answer/sameanswer/MediaTypeParameterPinLaw" (some 0) with
  accessFlags := 49
  interfaces := #[]
  cf := some (fileOf pool1 8 #[] #[{ accessFlags := 2, nameIndex := 5, descriptorIndex := 6, attributes := #[] }, { accessFlags := 9, nameIndex := 75, descriptorIndex := 76, attributes := #[] }, { accessFlags := 10, nameIndex := 21, descriptorIndex := 22, attributes := #[] }, { accessFlags := 10, nameIndex := 11, descriptorIndex := 12, attributes := #[] }, { accessFlags := 10, nameIndex := 38, descriptorIndex := 39, attributes := #[] }, { accessFlags := 10, nameIndex := 42, descriptorIndex := 39, attributes := #[] }, { accessFlags := 10, nameIndex := 55, descriptorIndex := 56, attributes := #[] }, { accessFlags := 10, nameIndex := 59, descriptorIndex := 56, attributes := #[] }, { accessFlags := 10, nameIndex := 45, descriptorIndex := 46, attributes := #[] }, { accessFlags := 10, nameIndex := 49, descriptorIndex := 50, attributes := #[] }] 49 2 #[] #[])
  fields := #[]
  methods := #[k1m0, k1m1, k1m2, k1m3, k1m4, k1m5, k1m6, k1m7, k1m8, k1m9]
  instanceTypes := #[]
  staticTypes := #[]
  resolved := Array.replicate 82 none
  statics := none }

def pool2 : Array CpInfo := pool [(1, .class_ 2), (0, u "java/io/Serializable"), (0, .class_ 4), (0, u "java/lang/Object")] 2

/-- java/io/Serializable -/
def k2 : Class := { plain "java/io/Serializable" (some 0) with
  accessFlags := 1537
  interfaces := #[]
  cf := some (fileOf pool2 1 #[] #[] 1537 3 #[] #[])
  fields := #[]
  methods := #[]
  instanceTypes := #[]
  staticTypes := #[]
  resolved := Array.replicate 7 none
  statics := none }

def pool3 : Array CpInfo := pool [(1, .class_ 2), (0, u "java/lang/Comparable"), (0, .class_ 4), (0, u "java/lang/Object")] 7

/-- java/lang/Comparable -/
def k3 : Class := { plain "java/lang/Comparable" (some 0) with
  accessFlags := 1537
  interfaces := #[]
  cf := some (fileOf pool3 1 #[] #[] 1537 3 #[] #[])
  fields := #[]
  methods := #[]
  instanceTypes := #[]
  staticTypes := #[]
  resolved := Array.replicate 12 none
  statics := none }

def pool4 : Array CpInfo := pool [(2, .class_ 4), (1, u "java/lang/CharSequence"), (42, .class_ 48), (0, u "java/lang/CharSequence$1CodePointIterator"), (10, .class_ 60), (0, u "java/lang/CharSequence$1CharIterator"), (5, .class_ 67), (0, u "java/lang/Object")] 63

/-- java/lang/CharSequence -/
def k4 : Class := { plain "java/lang/CharSequence" (some 0) with
  accessFlags := 1537
  interfaces := #[]
  cf := some (fileOf pool4 2 #[.nestMembers #[47, 59]] #[] 1537 66 #[] #[])
  fields := #[]
  methods := #[]
  instanceTypes := #[]
  staticTypes := #[]
  resolved := Array.replicate 131 none
  statics := none }

def pool5 : Array CpInfo := pool [(1, .class_ 2), (0, u "java/lang/constant/Constable"), (0, .class_ 4), (0, u "java/lang/Object")] 6

/-- java/lang/constant/Constable -/
def k5 : Class := { plain "java/lang/constant/Constable" (some 0) with
  accessFlags := 1537
  interfaces := #[]
  cf := some (fileOf pool5 1 #[] #[] 1537 3 #[] #[])
  fields := #[]
  methods := #[]
  instanceTypes := #[]
  staticTypes := #[]
  resolved := Array.replicate 11 none
  statics := none }

def pool6 : Array CpInfo := pool [(1, .class_ 2), (0, u "java/lang/constant/ConstantDesc"), (0, .class_ 4), (0, u "java/lang/Object")] 32

/-- java/lang/constant/ConstantDesc -/
def k6 : Class := { plain "java/lang/constant/ConstantDesc" (some 0) with
  accessFlags := 1537
  interfaces := #[]
  cf := some (fileOf pool6 1 #[] #[] 1537 3 #[] #[])
  fields := #[]
  methods := #[]
  instanceTypes := #[]
  staticTypes := #[]
  resolved := Array.replicate 37 none
  statics := none }

def pool7 : Array CpInfo := pool [(1, .methodref 2 3), (0, .class_ 4), (0, .nameAndType 5 6), (0, u "java/lang/Object"), (0, u "<init>"), (0, u "()V"), (2, .fieldref 10 11), (0, .class_ 12), (0, .nameAndType 13 14), (0, u "java/lang/String"), (0, u "value"), (0, u "[B"), (0, .fieldref 10 16), (0, .nameAndType 17 18), (0, u "coder"), (0, u "B"), (2, u "hash"), (0, u "I"), (2, u "hashIsZero"), (0, u "Z"), (0, .methodref 10 28), (0, .nameAndType 5 29), (0, u "([CIILjava/lang/Void;)V"), (8, .fieldref 10 39), (0, .nameAndType 40 26), (0, u "COMPACT_STRINGS"), (1, .class_ 44), (1, u "java/lang/StringUTF16"), (0, u "compress"), (1, .methodref 42 48), (0, .nameAndType 49 50), (0, u "coderFromArrayLen"), (0, u "([BI)B"), (2, u "toBytes"), (53, .class_ 109), (1, u "java/lang/StringLatin1"), (32, u "()Z"), (34, .methodref 42 178), (0, .nameAndType 45 179), (0, u "([CII)[B"), (29, .methodref 10 210), (0, .nameAndType 5 211), (0, u "([BB)V"), (122, u "()I"), (0, .methodref 10 336), (0, .nameAndType 17 337), (0, u "()B"), (25, u "([BI)C"), (5, u "(C)Z"), (21, u "(II)V"), (35, u "(I)C"), (36, u "()Ljava/lang/String;"), (27, .methodref 10 493), (0, .nameAndType 494 142), (0, u "isLatin1"), (0, .methodref 107 496), (0, .nameAndType 497 363), (0, u "charAt"), (3, u "checkIndex"), (3, .methodref 10 506), (0, .nameAndType 507 334), (0, u "length"), (5, u "checkFromToIndex"), (7, .methodref 10 522), (0, .nameAndType 523 524), (0, u "checkBoundsBeginEnd"), (0, u "(III)V"), (50, .class_ 576), (0, u "java/lang/CharSequence"), (5, .methodref 10 583), (0, .nameAndType 584 585), (0, u "regionMatches"), (0, u "(ZILjava/lang/String;II)Z"), (13, u "CASE_INSENSITIVE_ORDER"), (0, u "Ljava/util/Comparator;"), (12, .methodref 107 614), (0, .nameAndType 615 616), (0, u "regionMatchesCI"), (0, u "([BI[BII)Z"), (16, .methodref 10 634), (0, .nameAndType 635 636), (0, u "indexOf"), (0, u "(II)I"), (0, .methodref 107 638), (0, .nameAndType 635 639), (0, u "([BIII)I"), (43, u "substring"), (0, u "(II)Ljava/lang/String;"), (0, .methodref 107 686), (0, .nameAndType 687 688), (0, u "newString"), (0, u "([BII)Ljava/lang/String;"), (3, u "isEmpty"), (72, u "(I)I"), (16, u "valueOf"), (0, u "(C)Ljava/lang/String;"), (75, .methodref 107 860), (0, .nameAndType 861 862), (0, u "trim"), (0, u "([B)Ljava/lang/String;"), (147, u "([C)V"), (4, .methodref 107 1016), (0, .nameAndType 1017 369), (0, u "canEncode"), (0, .methodref 107 1019), (0, .nameAndType 53 1020), (0, u "(C)[B"), (32, .fieldref 1054 1055), (0, .class_ 1056), (0, .nameAndType 1057 1058), (0, u "jdk/internal/util/Preconditions"), (0, u "SIOOBE_FORMATTER"), (0, u "Ljava/util/function/BiFunction;"), (0, .methodref 1054 1060), (0, .nameAndType 501 1061), (0, u "(IILjava/util/function/BiFunction;)I"), (0, .methodref 1054 1063), (0, .nameAndType 513 1064), (0, u "(IIILjava/util/function/BiFunction;)I"), (36, u "serialPersistentFields"), (0, u "[Ljava/io/ObjectStreamField;"), (0, .class_ 1104), (0, u "java/lang/String$CaseInsensitiveComparator"), (1, .class_ 1107), (0, u "java/io/Serializable"), (0, .class_ 1109), (0, u "java/lang/Comparable"), (0, .class_ 1111), (0, u "java/lang/constant/Constable"), (0, .class_ 1113), (0, u "java/lang/constant/ConstantDesc"), (2, u "serialVersionUID"), (0, u "J"), (3, u "REPL"), (0, u "C"), (2, u "LATIN1"), (1, u "UTF16"), (128, u "equalsIgnoreCase"), (0, u "(Ljava/lang/String;)Z")] 193

def k7m0 : Method := { name := "<init>", desc := "()V", sig := { parameters := [], returnType := none }, accessFlags := 1, code := none }
def k7c1 : Code := { maxStack := 5, maxLocals := 2, code := jdk_42_method_3_code, exceptionTable := #[], attributes := #[] }
def k7m1 : Method := { name := "<init>", desc := "([C)V", sig := { parameters := [(.array .char)], returnType := none }, accessFlags := 1, code := some k7c1 }
def k7c2 : Code := { maxStack := 2, maxLocals := 1, code := jdk_42_method_54_code, exceptionTable := #[], attributes := #[] }
def k7m2 : Method := { name := "length", desc := "()I", sig := { parameters := [], returnType := some .int }, accessFlags := 1, code := some k7c2 }
def k7c3 : Code := { maxStack := 1, maxLocals := 1, code := jdk_42_method_55_code, exceptionTable := #[], attributes := #[] }
def k7m3 : Method := { name := "isEmpty", desc := "()Z", sig := { parameters := [], returnType := some .boolean }, accessFlags := 1, code := some k7c3 }
def k7c4 : Code := { maxStack := 2, maxLocals := 2, code := jdk_42_method_56_code, exceptionTable := #[], attributes := #[] }
def k7m4 : Method := { name := "charAt", desc := "(I)C", sig := { parameters := [.int], returnType := some .char }, accessFlags := 1, code := some k7c4 }
def k7c5 : Code := { maxStack := 6, maxLocals := 2, code := jdk_42_method_70_code, exceptionTable := #[], attributes := #[] }
def k7m5 : Method := { name := "equalsIgnoreCase", desc := "(Ljava/lang/String;)Z", sig := { parameters := [(.object "java/lang/String")], returnType := some .boolean }, accessFlags := 1, code := some k7c5 }
def k7c6 : Code := { maxStack := 6, maxLocals := 9, code := jdk_42_method_74_code, exceptionTable := #[], attributes := #[] }
def k7m6 : Method := { name := "regionMatches", desc := "(ZILjava/lang/String;II)Z", sig := { parameters := [.boolean, .int, (.object "java/lang/String"), .int, .int], returnType := some .boolean }, accessFlags := 1, code := some k7c6 }
def k7c7 : Code := { maxStack := 3, maxLocals := 2, code := jdk_42_method_79_code, exceptionTable := #[], attributes := #[] }
def k7m7 : Method := { name := "indexOf", desc := "(I)I", sig := { parameters := [.int], returnType := some .int }, accessFlags := 1, code := some k7c7 }
def k7c8 : Code := { maxStack := 4, maxLocals := 3, code := jdk_42_method_80_code, exceptionTable := #[], attributes := #[] }
def k7m8 : Method := { name := "indexOf", desc := "(II)I", sig := { parameters := [.int, .int], returnType := some .int }, accessFlags := 1, code := some k7c8 }
def k7c9 : Code := { maxStack := 3, maxLocals := 5, code := jdk_42_method_92_code, exceptionTable := #[], attributes := #[] }
def k7m9 : Method := { name := "substring", desc := "(II)Ljava/lang/String;", sig := { parameters := [.int, .int], returnType := some (.object "java/lang/String") }, accessFlags := 1, code := some k7c9 }
def k7c10 : Code := { maxStack := 1, maxLocals := 2, code := jdk_42_method_113_code, exceptionTable := #[], attributes := #[] }
def k7m10 : Method := { name := "trim", desc := "()Ljava/lang/String;", sig := { parameters := [], returnType := some (.object "java/lang/String") }, accessFlags := 1, code := some k7c10 }
def k7c11 : Code := { maxStack := 4, maxLocals := 1, code := jdk_42_method_139_code, exceptionTable := #[], attributes := #[] }
def k7m11 : Method := { name := "valueOf", desc := "(C)Ljava/lang/String;", sig := { parameters := [.char], returnType := some (.object "java/lang/String") }, accessFlags := 9, code := some k7c11 }
def k7c12 : Code := { maxStack := 4, maxLocals := 6, code := jdk_42_method_149_code, exceptionTable := #[], attributes := #[] }
def k7m12 : Method := { name := "<init>", desc := "([CIILjava/lang/Void;)V", sig := { parameters := [(.array .char), .int, .int, (.object "java/lang/Void")], returnType := none }, accessFlags := 2, code := some k7c12 }
def k7c13 : Code := { maxStack := 2, maxLocals := 3, code := jdk_42_method_151_code, exceptionTable := #[], attributes := #[] }
def k7m13 : Method := { name := "<init>", desc := "([BB)V", sig := { parameters := [(.array .byte), .byte], returnType := none }, accessFlags := 0, code := some k7c13 }
def k7c14 : Code := { maxStack := 1, maxLocals := 1, code := jdk_42_method_152_code, exceptionTable := #[], attributes := #[] }
def k7m14 : Method := { name := "coder", desc := "()B", sig := { parameters := [], returnType := some .byte }, accessFlags := 0, code := some k7c14 }
def k7c15 : Code := { maxStack := 1, maxLocals := 1, code := jdk_42_method_154_code, exceptionTable := #[], attributes := #[] }
def k7m15 : Method := { name := "isLatin1", desc := "()Z", sig := { parameters := [], returnType := some .boolean }, accessFlags := 0, code := some k7c15 }
def k7c16 : Code := { maxStack := 3, maxLocals := 2, code := jdk_42_method_155_code, exceptionTable := #[], attributes := #[] }
def k7m16 : Method := { name := "checkIndex", desc := "(II)V", sig := { parameters := [.int, .int], returnType := none }, accessFlags := 8, code := some k7c16 }
def k7c17 : Code := { maxStack := 4, maxLocals := 3, code := jdk_42_method_158_code, exceptionTable := #[], attributes := #[] }
def k7m17 : Method := { name := "checkBoundsBeginEnd", desc := "(III)V", sig := { parameters := [.int, .int, .int], returnType := none }, accessFlags := 8, code := some k7c17 }
/-- java/lang/String -/
def k7 : Class := { plain "java/lang/String" (some 0) with
  accessFlags := 49
  interfaces := #[2, 3, 4, 5, 6]
  cf := some (fileOf pool7 10 #[.nestMembers #[1103]] #[{ accessFlags := 1, nameIndex := 5, descriptorIndex := 6, attributes := #[] }, { accessFlags := 1, nameIndex := 5, descriptorIndex := 1010, attributes := #[] }, { accessFlags := 1, nameIndex := 507, descriptorIndex := 334, attributes := #[] }, { accessFlags := 1, nameIndex := 692, descriptorIndex := 142, attributes := #[] }, { accessFlags := 1, nameIndex := 497, descriptorIndex := 427, attributes := #[] }, { accessFlags := 1, nameIndex := 1256, descriptorIndex := 1257, attributes := #[] }, { accessFlags := 1, nameIndex := 584, descriptorIndex := 585, attributes := #[] }, { accessFlags := 1, nameIndex := 635, descriptorIndex := 765, attributes := #[] }, { accessFlags := 1, nameIndex := 635, descriptorIndex := 636, attributes := #[] }, { accessFlags := 1, nameIndex := 683, descriptorIndex := 684, attributes := #[] }, { accessFlags := 1, nameIndex := 861, descriptorIndex := 464, attributes := #[] }, { accessFlags := 9, nameIndex := 782, descriptorIndex := 783, attributes := #[] }, { accessFlags := 2, nameIndex := 5, descriptorIndex := 29, attributes := #[] }, { accessFlags := 0, nameIndex := 5, descriptorIndex := 211, attributes := #[] }, { accessFlags := 0, nameIndex := 17, descriptorIndex := 337, attributes := #[] }, { accessFlags := 0, nameIndex := 494, descriptorIndex := 142, attributes := #[] }, { accessFlags := 8, nameIndex := 501, descriptorIndex := 391, attributes := #[] }, { accessFlags := 8, nameIndex := 523, descriptorIndex := 524, attributes := #[] }] 49 2 #[1106, 1108, 575, 1110, 1112] #[{ accessFlags := 18, nameIndex := 13, descriptorIndex := 14, attributes := #[] }, { accessFlags := 18, nameIndex := 17, descriptorIndex := 18, attributes := #[] }, { accessFlags := 2, nameIndex := 21, descriptorIndex := 22, attributes := #[] }, { accessFlags := 2, nameIndex := 25, descriptorIndex := 26, attributes := #[] }, { accessFlags := 26, nameIndex := 1116, descriptorIndex := 1117, attributes := #[] }, { accessFlags := 24, nameIndex := 40, descriptorIndex := 26, attributes := #[] }, { accessFlags := 26, nameIndex := 1101, descriptorIndex := 1102, attributes := #[] }, { accessFlags := 26, nameIndex := 1121, descriptorIndex := 1122, attributes := #[] }, { accessFlags := 25, nameIndex := 599, descriptorIndex := 600, attributes := #[] }, { accessFlags := 24, nameIndex := 1125, descriptorIndex := 18, attributes := #[] }, { accessFlags := 24, nameIndex := 1127, descriptorIndex := 18, attributes := #[] }])
  fields := #[{ name := "value", type := (.array .byte), accessFlags := 18, slot := 0, constantValue := 0 }, { name := "coder", type := .byte, accessFlags := 18, slot := 1, constantValue := 0 }, { name := "hash", type := .int, accessFlags := 2, slot := 2, constantValue := 0 }, { name := "hashIsZero", type := .boolean, accessFlags := 2, slot := 3, constantValue := 0 }, { name := "serialVersionUID", type := .long, accessFlags := 26, slot := 0, constantValue := 0 }, { name := "COMPACT_STRINGS", type := .boolean, accessFlags := 24, slot := 1, constantValue := 0 }, { name := "serialPersistentFields", type := (.array (.object "java/io/ObjectStreamField")), accessFlags := 26, slot := 2, constantValue := 0 }, { name := "REPL", type := .char, accessFlags := 26, slot := 3, constantValue := 0 }, { name := "CASE_INSENSITIVE_ORDER", type := (.object "java/util/Comparator"), accessFlags := 25, slot := 4, constantValue := 0 }, { name := "LATIN1", type := .byte, accessFlags := 24, slot := 5, constantValue := 0 }, { name := "UTF16", type := .byte, accessFlags := 24, slot := 6, constantValue := 0 }]
  methods := #[k7m0, k7m1, k7m2, k7m3, k7m4, k7m5, k7m6, k7m7, k7m8, k7m9, k7m10, k7m11, k7m12, k7m13, k7m14, k7m15, k7m16, k7m17]
  instanceTypes := #[(.array .byte), .byte, .int, .boolean]
  staticTypes := #[.long, .boolean, (.array (.object "java/io/ObjectStreamField")), .char, (.object "java/util/Comparator"), .byte, .byte]
  resolved := Array.replicate 1451 none
  statics := some 0 }

def pool8 : Array CpInfo := pool [(1, .class_ 2), (0, u "java/lang/String"), (1, .class_ 6), (1, u "java/lang/Object"), (0, u "<init>"), (0, u "()V"), (0, .methodref 1 10), (0, .nameAndType 11 12), (0, u "checkIndex"), (0, u "(II)V"), (1, .class_ 16), (1, u "java/lang/StringLatin1"), (21, .methodref 39 40), (0, .class_ 41), (0, .nameAndType 42 43), (0, u "java/lang/Math"), (0, u "min"), (0, u "(II)I"), (9, u "([BI)C"), (13, .class_ 69), (1, u "java/lang/CharacterDataLatin1"), (18, .methodref 14 89), (0, .nameAndType 90 91), (0, u "canEncode"), (0, u "(I)Z"), (0, .methodref 39 93), (0, .nameAndType 94 43), (0, u "max"), (0, .methodref 14 96), (0, .nameAndType 97 98), (0, u "indexOfChar"), (0, u "([BIII)I"), (2, u "indexOf"), (3, u "(C)Z"), (6, .methodref 1 113), (0, .nameAndType 7 114), (0, u "([BB)V"), (6, u "$assertionsDisabled"), (0, u "Z"), (8, .class_ 133), (1, u "java/util/Arrays"), (17, .string 152), (0, u ""), (0, .methodref 67 154), (0, .nameAndType 155 156), (0, u "equalsIgnoreCase"), (0, u "(BB)Z"), (38, .nameAndType 196 197), (0, u "newString"), (0, u "([BII)Ljava/lang/String;"), (12, .methodref 14 195), (10, .class_ 223), (1, u "java/lang/StringLatin1$LinesSpliterator"), (8, .methodref 131 233), (0, .nameAndType 234 235), (0, u "copyOfRange"), (0, u "([BII)[B"), (16, u "charAt"), (87, u "regionMatchesCI"), (0, u "([BI[BII)Z"), (24, u "trim"), (0, u "([B)Ljava/lang/String;"), (12, u "toBytes"), (1, u "(C)[B"), (7, .class_ 391), (0, u "java/lang/StringLatin1$CharsSpliterator")] 3

def k8m0 : Method := { name := "<init>", desc := "()V", sig := { parameters := [], returnType := none }, accessFlags := 0, code := none }
def k8c1 : Code := { maxStack := 2, maxLocals := 2, code := jdk_43_method_2_code, exceptionTable := #[], attributes := #[] }
def k8m1 : Method := { name := "charAt", desc := "([BI)C", sig := { parameters := [(.array .byte), .int], returnType := some .char }, accessFlags := 9, code := some k8c1 }
def k8c2 : Code := { maxStack := 2, maxLocals := 1, code := jdk_43_method_3_code, exceptionTable := #[], attributes := #[] }
def k8m2 : Method := { name := "canEncode", desc := "(C)Z", sig := { parameters := [.char], returnType := some .boolean }, accessFlags := 9, code := some k8c2 }
def k8c3 : Code := { maxStack := 2, maxLocals := 1, code := jdk_43_method_4_code, exceptionTable := #[], attributes := #[] }
def k8m3 : Method := { name := "canEncode", desc := "(I)Z", sig := { parameters := [.int], returnType := some .boolean }, accessFlags := 9, code := some k8c3 }
def k8c4 : Code := { maxStack := 4, maxLocals := 4, code := jdk_43_method_22_code, exceptionTable := #[], attributes := #[] }
def k8m4 : Method := { name := "indexOf", desc := "([BIII)I", sig := { parameters := [(.array .byte), .int, .int, .int], returnType := some .int }, accessFlags := 9, code := some k8c4 }
def k8c5 : Code := { maxStack := 2, maxLocals := 6, code := jdk_43_method_23_code, exceptionTable := #[], attributes := #[] }
def k8m5 : Method := { name := "indexOfChar", desc := "([BIII)I", sig := { parameters := [(.array .byte), .int, .int, .int], returnType := some .int }, accessFlags := 10, code := some k8c5 }
def k8c6 : Code := { maxStack := 2, maxLocals := 8, code := jdk_43_method_30_code, exceptionTable := #[], attributes := #[] }
def k8m6 : Method := { name := "regionMatchesCI", desc := "([BI[BII)Z", sig := { parameters := [(.array .byte), .int, (.array .byte), .int, .int], returnType := some .boolean }, accessFlags := 9, code := some k8c6 }
def k8c7 : Code := { maxStack := 4, maxLocals := 3, code := jdk_43_method_36_code, exceptionTable := #[], attributes := #[] }
def k8m7 : Method := { name := "trim", desc := "([B)Ljava/lang/String;", sig := { parameters := [(.array .byte)], returnType := some (.object "java/lang/String") }, accessFlags := 9, code := some k8c7 }
def k8c8 : Code := { maxStack := 4, maxLocals := 1, code := jdk_43_method_46_code, exceptionTable := #[], attributes := #[] }
def k8m8 : Method := { name := "toBytes", desc := "(C)[B", sig := { parameters := [.char], returnType := some (.array .byte) }, accessFlags := 9, code := some k8c8 }
def k8c9 : Code := { maxStack := 6, maxLocals := 3, code := jdk_43_method_47_code, exceptionTable := #[], attributes := #[] }
def k8m9 : Method := { name := "newString", desc := "([BII)Ljava/lang/String;", sig := { parameters := [(.array .byte), .int, .int], returnType := some (.object "java/lang/String") }, accessFlags := 9, code := some k8c9 }
/-- java/lang/StringLatin1 -/
def k8 : Class := { plain "java/lang/StringLatin1" (some 0) with
  accessFlags := 48
  interfaces := #[]
  cf := some (fileOf pool8 14 #[.nestMembers #[390, 221]] #[{ accessFlags := 0, nameIndex := 7, descriptorIndex := 8, attributes := #[] }, { accessFlags := 9, nameIndex := 252, descriptorIndex := 53, attributes := #[] }, { accessFlags := 9, nameIndex := 90, descriptorIndex := 105, attributes := #[] }, { accessFlags := 9, nameIndex := 90, descriptorIndex := 91, attributes := #[] }, { accessFlags := 9, nameIndex := 101, descriptorIndex := 98, attributes := #[] }, { accessFlags := 10, nameIndex := 97, descriptorIndex := 98, attributes := #[] }, { accessFlags := 9, nameIndex := 340, descriptorIndex := 341, attributes := #[] }, { accessFlags := 9, nameIndex := 366, descriptorIndex := 367, attributes := #[] }, { accessFlags := 9, nameIndex := 380, descriptorIndex := 382, attributes := #[] }, { accessFlags := 9, nameIndex := 196, descriptorIndex := 197, attributes := #[] }] 48 4 #[] #[{ accessFlags := 4120, nameIndex := 121, descriptorIndex := 122, attributes := #[] }])
  fields := #[{ name := "$assertionsDisabled", type := .boolean, accessFlags := 4120, slot := 0, constantValue := 0 }]
  methods := #[k8m0, k8m1, k8m2, k8m3, k8m4, k8m5, k8m6, k8m7, k8m8, k8m9]
  instanceTypes := #[]
  staticTypes := #[.boolean]
  resolved := Array.replicate 395 none
  statics := none }

def pool9 : Array CpInfo := pool [(2, .class_ 4), (1, u "java/lang/Object"), (0, u "<init>"), (0, u "()V"), (2, .methodref 10 11), (0, .class_ 12), (0, .nameAndType 13 14), (0, u "java/lang/String"), (0, u "indexOf"), (0, u "(I)I"), (0, .methodref 10 16), (0, .nameAndType 17 18), (0, u "substring"), (0, u "(II)Ljava/lang/String;"), (0, .methodref 10 20), (0, .nameAndType 21 22), (0, u "trim"), (0, u "()Ljava/lang/String;"), (10, .methodref 10 34), (0, .nameAndType 13 35), (0, u "(II)I"), (0, .methodref 10 37), (0, .nameAndType 38 39), (0, u "length"), (0, u "()I"), (0, .methodref 10 41), (0, .nameAndType 42 43), (0, u "charAt"), (0, u "(I)C"), (0, .methodref 10 45), (0, .nameAndType 46 47), (0, u "equalsIgnoreCase"), (0, u "(Ljava/lang/String;)Z"), (0, .class_ 49), (0, u "com/example/same_answer/sameanswer/MediaType"), (5, u "parameter"), (0, u "(Ljava/lang/String;Ljava/lang/String;)Ljava/lang/String;")] 2

def k9m0 : Method := { name := "<init>", desc := "()V", sig := { parameters := [], returnType := none }, accessFlags := 2, code := none }
def k9c1 : Code := { maxStack := 4, maxLocals := 8, code := prog_10_method_3_code, exceptionTable := #[], attributes := #[] }
def k9m1 : Method := { name := "parameter", desc := "(Ljava/lang/String;Ljava/lang/String;)Ljava/lang/String;", sig := { parameters := [(.object "java/lang/String"), (.object "java/lang/String")], returnType := some (.object "java/lang/String") }, accessFlags := 8, code := some k9c1 }
/-- com/example/same_answer/sameanswer/MediaType -/
def k9 : Class := { plain "com/example/same_answer/sameanswer/MediaType" (some 0) with
  accessFlags := 48
  interfaces := #[]
  cf := some (fileOf pool9 48 #[] #[{ accessFlags := 2, nameIndex := 5, descriptorIndex := 6, attributes := #[] }, { accessFlags := 8, nameIndex := 55, descriptorIndex := 56, attributes := #[] }] 48 2 #[] #[])
  fields := #[]
  methods := #[k9m0, k9m1]
  instanceTypes := #[]
  staticTypes := #[]
  resolved := Array.replicate 59 none
  statics := none }

def pool10 : Array CpInfo := pool [(6, .class_ 8), (1, u "java/lang/Object"), (0, u "<init>"), (0, u "()V"), (1, .class_ 14), (1, u "java/lang/StringUTF16"), (31, u "$assertionsDisabled"), (0, u "Z"), (13, u "HI_BYTE_SHIFT"), (0, u "I"), (2, u "LO_BYTE_SHIFT"), (49, .methodref 12 116), (0, .nameAndType 117 118), (0, u "compress"), (0, u "([CI[BII)I"), (3, u "([CII)[B"), (138, u "coderFromArrayLen"), (0, u "([BI)B"), (106, .class_ 371), (1, u "java/lang/StringUTF16$LinesSpliterator"), (58, u "MAX_LENGTH"), (196, .class_ 628), (0, u "java/lang/StringUTF16$CodePointsSpliterator"), (0, .class_ 630), (0, u "java/lang/StringUTF16$CharsSpliterator")] 4

def k10m0 : Method := { name := "<init>", desc := "()V", sig := { parameters := [], returnType := none }, accessFlags := 0, code := none }
def k10c1 : Code := { maxStack := 2, maxLocals := 2, code := jdk_52_method_15_code, exceptionTable := #[], attributes := #[] }
def k10m1 : Method := { name := "coderFromArrayLen", desc := "([BI)B", sig := { parameters := [(.array .byte), .int], returnType := some .byte }, accessFlags := 8, code := some k10c1 }
def k10c2 : Code := { maxStack := 5, maxLocals := 6, code := jdk_52_method_16_code, exceptionTable := #[], attributes := #[] }
def k10m2 : Method := { name := "compress", desc := "([CII)[B", sig := { parameters := [(.array .char), .int, .int], returnType := some (.array .byte) }, accessFlags := 9, code := some k10c2 }
def k10c3 : Code := { maxStack := 3, maxLocals := 7, code := jdk_52_method_21_code, exceptionTable := #[], attributes := #[] }
def k10m3 : Method := { name := "compress", desc := "([CI[BII)I", sig := { parameters := [(.array .char), .int, (.array .byte), .int, .int], returnType := some .int }, accessFlags := 9, code := some k10c3 }
/-- java/lang/StringUTF16 -/
def k10 : Class := { plain "java/lang/StringUTF16" (some 0) with
  accessFlags := 48
  interfaces := #[]
  cf := some (fileOf pool10 12 #[.nestMembers #[627, 629, 369]] #[{ accessFlags := 0, nameIndex := 9, descriptorIndex := 10, attributes := #[] }, { accessFlags := 8, nameIndex := 261, descriptorIndex := 262, attributes := #[] }, { accessFlags := 9, nameIndex := 117, descriptorIndex := 122, attributes := #[] }, { accessFlags := 9, nameIndex := 117, descriptorIndex := 118, attributes := #[] }] 48 6 #[] #[{ accessFlags := 26, nameIndex := 61, descriptorIndex := 62, attributes := #[] }, { accessFlags := 26, nameIndex := 65, descriptorIndex := 62, attributes := #[] }, { accessFlags := 24, nameIndex := 430, descriptorIndex := 62, attributes := #[] }, { accessFlags := 4120, nameIndex := 46, descriptorIndex := 47, attributes := #[] }])
  fields := #[{ name := "HI_BYTE_SHIFT", type := .int, accessFlags := 26, slot := 0, constantValue := 0 }, { name := "LO_BYTE_SHIFT", type := .int, accessFlags := 26, slot := 1, constantValue := 0 }, { name := "MAX_LENGTH", type := .int, accessFlags := 24, slot := 2, constantValue := 0 }, { name := "$assertionsDisabled", type := .boolean, accessFlags := 4120, slot := 3, constantValue := 0 }]
  methods := #[k10m0, k10m1, k10m2, k10m3]
  instanceTypes := #[]
  staticTypes := #[.int, .int, .int, .boolean]
  resolved := Array.replicate 635 none
  statics := none }

def pool11 : Array CpInfo := pool [(1, .class_ 2), (0, u "java/lang/Math"), (1, .class_ 6), (1, u "java/lang/Object"), (0, u "<init>"), (0, u "()V"), (89, .class_ 100), (1, u "java/lang/Math$RandomNumberGeneratorHolder"), (71, u "negativeZeroFloatBits"), (0, u "J"), (2, u "negativeZeroDoubleBits"), (21, u "max"), (2, u "min"), (43, u "$assertionsDisabled"), (0, u "Z"), (88, u "(II)I"), (2, u "twoToTheDoubleScaleDown"), (0, u "D"), (4, u "twoToTheDoubleScaleUp"), (9, u "E"), (3, u "PI"), (2, u "TAU"), (2, u "DEGREES_TO_RADIANS"), (0, u "RADIANS_TO_DEGREES")] 94

def k11m0 : Method := { name := "<init>", desc := "()V", sig := { parameters := [], returnType := none }, accessFlags := 2, code := none }
def k11c1 : Code := { maxStack := 2, maxLocals := 2, code := jdk_29_method_65_code, exceptionTable := #[], attributes := #[] }
def k11m1 : Method := { name := "max", desc := "(II)I", sig := { parameters := [.int, .int], returnType := some .int }, accessFlags := 9, code := some k11c1 }
def k11c2 : Code := { maxStack := 2, maxLocals := 2, code := jdk_29_method_69_code, exceptionTable := #[], attributes := #[] }
def k11m2 : Method := { name := "min", desc := "(II)I", sig := { parameters := [.int, .int], returnType := some .int }, accessFlags := 9, code := some k11c2 }
/-- java/lang/Math -/
def k11 : Class := { plain "java/lang/Math" (some 0) with
  accessFlags := 49
  interfaces := #[]
  cf := some (fileOf pool11 1 #[.nestMembers #[98]] #[{ accessFlags := 2, nameIndex := 7, descriptorIndex := 8, attributes := #[] }, { accessFlags := 9, nameIndex := 198, descriptorIndex := 335, attributes := #[] }, { accessFlags := 9, nameIndex := 201, descriptorIndex := 335, attributes := #[] }] 49 4 #[] #[{ accessFlags := 25, nameIndex := 354, descriptorIndex := 339, attributes := #[] }, { accessFlags := 25, nameIndex := 358, descriptorIndex := 339, attributes := #[] }, { accessFlags := 25, nameIndex := 361, descriptorIndex := 339, attributes := #[] }, { accessFlags := 26, nameIndex := 364, descriptorIndex := 339, attributes := #[] }, { accessFlags := 26, nameIndex := 365, descriptorIndex := 339, attributes := #[] }, { accessFlags := 26, nameIndex := 172, descriptorIndex := 173, attributes := #[] }, { accessFlags := 26, nameIndex := 176, descriptorIndex := 173, attributes := #[] }, { accessFlags := 8, nameIndex := 344, descriptorIndex := 339, attributes := #[] }, { accessFlags := 8, nameIndex := 338, descriptorIndex := 339, attributes := #[] }, { accessFlags := 4120, nameIndex := 245, descriptorIndex := 246, attributes := #[] }])
  fields := #[{ name := "E", type := .double, accessFlags := 25, slot := 0, constantValue := 0 }, { name := "PI", type := .double, accessFlags := 25, slot := 1, constantValue := 0 }, { name := "TAU", type := .double, accessFlags := 25, slot := 2, constantValue := 0 }, { name := "DEGREES_TO_RADIANS", type := .double, accessFlags := 26, slot := 3, constantValue := 0 }, { name := "RADIANS_TO_DEGREES", type := .double, accessFlags := 26, slot := 4, constantValue := 0 }, { name := "negativeZeroFloatBits", type := .long, accessFlags := 26, slot := 5, constantValue := 0 }, { name := "negativeZeroDoubleBits", type := .long, accessFlags := 26, slot := 6, constantValue := 0 }, { name := "twoToTheDoubleScaleUp", type := .double, accessFlags := 8, slot := 7, constantValue := 0 }, { name := "twoToTheDoubleScaleDown", type := .double, accessFlags := 8, slot := 8, constantValue := 0 }, { name := "$assertionsDisabled", type := .boolean, accessFlags := 4120, slot := 9, constantValue := 0 }]
  methods := #[k11m0, k11m1, k11m2]
  instanceTypes := #[]
  staticTypes := #[.double, .double, .double, .double, .double, .long, .long, .double, .double, .boolean]
  resolved := Array.replicate 460 none
  statics := none }

def pool12 : Array CpInfo := pool [(2, .class_ 4), (1, u "java/lang/Object"), (0, u "<init>"), (0, u "()V"), (17, .class_ 26), (1, u "jdk/internal/util/Preconditions"), (6, u "checkIndex"), (13, u "checkFromToIndex"), (7, .class_ 56), (0, u "jdk/internal/util/Preconditions$4"), (57, .class_ 115), (0, u "jdk/internal/util/Preconditions$1"), (7, u "SIOOBE_FORMATTER"), (0, u "Ljava/util/function/BiFunction;"), (0, .class_ 126), (0, u "jdk/internal/util/Preconditions$2"), (3, u "AIOOBE_FORMATTER"), (0, .class_ 132), (0, u "jdk/internal/util/Preconditions$3"), (3, u "IOOBE_FORMATTER"), (41, u "(IILjava/util/function/BiFunction;)I"), (4, u "(IIILjava/util/function/BiFunction;)I")] 10

def k12m0 : Method := { name := "<init>", desc := "()V", sig := { parameters := [], returnType := none }, accessFlags := 1, code := none }
def k12c1 : Code := { maxStack := 3, maxLocals := 3, code := jdk_41_method_11_code, exceptionTable := #[], attributes := #[] }
def k12m1 : Method := { name := "checkIndex", desc := "(IILjava/util/function/BiFunction;)I", sig := { parameters := [.int, .int, (.object "java/util/function/BiFunction")], returnType := some .int }, accessFlags := 9, code := some k12c1 }
def k12c2 : Code := { maxStack := 4, maxLocals := 4, code := jdk_41_method_12_code, exceptionTable := #[], attributes := #[] }
def k12m2 : Method := { name := "checkFromToIndex", desc := "(IIILjava/util/function/BiFunction;)I", sig := { parameters := [.int, .int, .int, (.object "java/util/function/BiFunction")], returnType := some .int }, accessFlags := 9, code := some k12c2 }
/-- jdk/internal/util/Preconditions -/
def k12 : Class := { plain "jdk/internal/util/Preconditions" (some 0) with
  accessFlags := 33
  interfaces := #[]
  cf := some (fileOf pool12 24 #[.nestMembers #[55, 131, 125, 114]] #[{ accessFlags := 1, nameIndex := 5, descriptorIndex := 6, attributes := #[] }, { accessFlags := 9, nameIndex := 33, descriptorIndex := 178, attributes := #[] }, { accessFlags := 9, nameIndex := 47, descriptorIndex := 183, attributes := #[] }] 33 2 #[] #[{ accessFlags := 25, nameIndex := 123, descriptorIndex := 124, attributes := #[] }, { accessFlags := 25, nameIndex := 130, descriptorIndex := 124, attributes := #[] }, { accessFlags := 25, nameIndex := 136, descriptorIndex := 124, attributes := #[] }])
  fields := #[{ name := "SIOOBE_FORMATTER", type := (.object "java/util/function/BiFunction"), accessFlags := 25, slot := 0, constantValue := 0 }, { name := "AIOOBE_FORMATTER", type := (.object "java/util/function/BiFunction"), accessFlags := 25, slot := 1, constantValue := 0 }, { name := "IOOBE_FORMATTER", type := (.object "java/util/function/BiFunction"), accessFlags := 25, slot := 2, constantValue := 0 }]
  methods := #[k12m0, k12m1, k12m2]
  instanceTypes := #[]
  staticTypes := #[(.object "java/util/function/BiFunction"), (.object "java/util/function/BiFunction"), (.object "java/util/function/BiFunction")]
  resolved := Array.replicate 194 none
  statics := some 1 }

def pool13 : Array CpInfo := pool [(2, .class_ 4), (1, u "java/lang/Object"), (0, u "<init>"), (0, u "()V"), (7, .class_ 16), (1, u "java/util/Arrays"), (57, .class_ 76), (1, u "java/util/Arrays$NaturalOrder"), (36, .class_ 115), (1, u "java/util/Arrays$LegacyMergeSort"), (1, u "Z"), (21, u "copyOfRange"), (10, .methodref 151 152), (0, .class_ 153), (0, .nameAndType 154 155), (0, u "java/lang/System"), (0, u "arraycopy"), (0, u "(Ljava/lang/Object;ILjava/lang/Object;II)V"), (148, .methodref 305 306), (0, .class_ 307), (0, .nameAndType 308 309), (0, u "java/lang/Math"), (0, u "min"), (0, u "(II)I"), (29, .methodref 14 340), (0, .nameAndType 341 342), (0, u "copyOfRangeByte"), (0, u "([BII)[B"), (0, .methodref 14 344), (0, .nameAndType 345 346), (0, u "checkLength"), (0, u "(II)V"), (28, .class_ 376), (0, u "java/util/Arrays$ArrayList"), (68, u "$assertionsDisabled"), (269, u "MIN_ARRAY_SORT_GRAN"), (0, u "I"), (2, u "INSERTIONSORT_THRESHOLD"), (255, .class_ 976), (0, u "java/util/Arrays$ArrayItr")] 52

def k13m0 : Method := { name := "<init>", desc := "()V", sig := { parameters := [], returnType := none }, accessFlags := 2, code := none }
def k13c1 : Code := { maxStack := 4, maxLocals := 2, code := jdk_65_method_131_code, exceptionTable := #[], attributes := #[] }
def k13m1 : Method := { name := "checkLength", desc := "(II)V", sig := { parameters := [.int, .int], returnType := none }, accessFlags := 10, code := some k13c1 }
def k13c2 : Code := { maxStack := 3, maxLocals := 3, code := jdk_65_method_132_code, exceptionTable := #[], attributes := #[] }
def k13m2 : Method := { name := "copyOfRange", desc := "([BII)[B", sig := { parameters := [(.array .byte), .int, .int], returnType := some (.array .byte) }, accessFlags := 9, code := some k13c2 }
def k13c3 : Code := { maxStack := 6, maxLocals := 5, code := jdk_65_method_133_code, exceptionTable := #[], attributes := #[] }
def k13m3 : Method := { name := "copyOfRangeByte", desc := "([BII)[B", sig := { parameters := [(.array .byte), .int, .int], returnType := some (.array .byte) }, accessFlags := 10, code := some k13c3 }
/-- java/util/Arrays -/
def k13 : Class := { plain "java/util/Arrays" (some 0) with
  accessFlags := 49
  interfaces := #[]
  cf := some (fileOf pool13 14 #[.nestMembers #[975, 375, 113, 74]] #[{ accessFlags := 2, nameIndex := 5, descriptorIndex := 6, attributes := #[] }, { accessFlags := 10, nameIndex := 345, descriptorIndex := 346, attributes := #[] }, { accessFlags := 9, nameIndex := 139, descriptorIndex := 342, attributes := #[] }, { accessFlags := 10, nameIndex := 341, descriptorIndex := 342, attributes := #[] }] 49 2 #[] #[{ accessFlags := 26, nameIndex := 715, descriptorIndex := 716, attributes := #[] }, { accessFlags := 26, nameIndex := 719, descriptorIndex := 716, attributes := #[] }, { accessFlags := 4120, nameIndex := 445, descriptorIndex := 117, attributes := #[] }])
  fields := #[{ name := "MIN_ARRAY_SORT_GRAN", type := .int, accessFlags := 26, slot := 0, constantValue := 0 }, { name := "INSERTIONSORT_THRESHOLD", type := .int, accessFlags := 26, slot := 1, constantValue := 0 }, { name := "$assertionsDisabled", type := .boolean, accessFlags := 4120, slot := 2, constantValue := 0 }]
  methods := #[k13m0, k13m1, k13m2, k13m3]
  instanceTypes := #[]
  staticTypes := #[.int, .int, .boolean]
  resolved := Array.replicate 1029 none
  statics := none }

def pool14 : Array CpInfo := pool [(2, .class_ 4), (1, u "java/lang/Object"), (0, u "<init>"), (0, u "()V"), (1, .class_ 10), (1, u "java/lang/System"), (0, u "allowSecurityManager"), (0, u "I"), (16, u "cons"), (0, u "Ljava/io/Console;"), (77, .class_ 110), (1, u "java/lang/System$CallersHolder"), (43, u "initialErrStream"), (0, u "Ljava/io/PrintStream;"), (19, u "security"), (0, u "Ljava/lang/SecurityManager;"), (31, .class_ 209), (0, u "java/lang/System$1"), (7, u "props"), (0, u "Ljava/util/Properties;"), (2, u "lineSeparator"), (0, u "Ljava/lang/String;"), (96, .class_ 321), (1, u "java/lang/System$LoggerFinder"), (5, .class_ 328), (0, u "java/lang/System$Logger"), (67, u "err"), (2, u "out"), (91, u "notSupportedJnuEncoding"), (15, u "in"), (17, u "initialIn"), (0, u "Ljava/io/InputStream;"), (35, u "bootLayer"), (0, u "Ljava/lang/ModuleLayer;"), (99, .class_ 664), (0, u "java/lang/System$2"), (9, u "NEVER"), (2, u "MAYBE"), (49, u "arraycopy"), (0, u "(Ljava/lang/Object;ILjava/lang/Object;II)V"), (72, .class_ 802), (0, u "java/lang/System$Logger$Level")] 31

def k14m0 : Method := { name := "<init>", desc := "()V", sig := { parameters := [], returnType := none }, accessFlags := 2, code := none }
def k14m1 : Method := { name := "arraycopy", desc := "(Ljava/lang/Object;ILjava/lang/Object;II)V", sig := { parameters := [(.object "java/lang/Object"), .int, (.object "java/lang/Object"), .int, .int], returnType := none }, accessFlags := 265, code := none }
/-- java/lang/System -/
def k14 : Class := { plain "java/lang/System" (some 0) with
  accessFlags := 49
  interfaces := #[]
  cf := some (fileOf pool14 8 #[.nestMembers #[319, 327, 801, 108, 663, 208]] #[{ accessFlags := 2, nameIndex := 5, descriptorIndex := 6, attributes := #[] }, { accessFlags := 265, nameIndex := 727, descriptorIndex := 728, attributes := #[] }] 49 2 #[] #[{ accessFlags := 25, nameIndex := 507, descriptorIndex := 526, attributes := #[] }, { accessFlags := 25, nameIndex := 399, descriptorIndex := 155, attributes := #[] }, { accessFlags := 25, nameIndex := 396, descriptorIndex := 155, attributes := #[] }, { accessFlags := 10, nameIndex := 525, descriptorIndex := 526, attributes := #[] }, { accessFlags := 26, nameIndex := 674, descriptorIndex := 12, attributes := #[] }, { accessFlags := 26, nameIndex := 677, descriptorIndex := 12, attributes := #[] }, { accessFlags := 10, nameIndex := 11, descriptorIndex := 12, attributes := #[] }, { accessFlags := 74, nameIndex := 175, descriptorIndex := 176, attributes := #[] }, { accessFlags := 10, nameIndex := 491, descriptorIndex := 222, attributes := #[] }, { accessFlags := 74, nameIndex := 29, descriptorIndex := 30, attributes := #[] }, { accessFlags := 74, nameIndex := 154, descriptorIndex := 155, attributes := #[] }, { accessFlags := 10, nameIndex := 217, descriptorIndex := 218, attributes := #[] }, { accessFlags := 10, nameIndex := 221, descriptorIndex := 222, attributes := #[] }, { accessFlags := 8, nameIndex := 562, descriptorIndex := 563, attributes := #[] }])
  fields := #[{ name := "in", type := (.object "java/io/InputStream"), accessFlags := 25, slot := 0, constantValue := 0 }, { name := "out", type := (.object "java/io/PrintStream"), accessFlags := 25, slot := 1, constantValue := 0 }, { name := "err", type := (.object "java/io/PrintStream"), accessFlags := 25, slot := 2, constantValue := 0 }, { name := "initialIn", type := (.object "java/io/InputStream"), accessFlags := 10, slot := 3, constantValue := 0 }, { name := "NEVER", type := .int, accessFlags := 26, slot := 4, constantValue := 0 }, { name := "MAYBE", type := .int, accessFlags := 26, slot := 5, constantValue := 0 }, { name := "allowSecurityManager", type := .int, accessFlags := 10, slot := 6, constantValue := 0 }, { name := "security", type := (.object "java/lang/SecurityManager"), accessFlags := 74, slot := 7, constantValue := 0 }, { name := "notSupportedJnuEncoding", type := (.object "java/lang/String"), accessFlags := 10, slot := 8, constantValue := 0 }, { name := "cons", type := (.object "java/io/Console"), accessFlags := 74, slot := 9, constantValue := 0 }, { name := "initialErrStream", type := (.object "java/io/PrintStream"), accessFlags := 74, slot := 10, constantValue := 0 }, { name := "props", type := (.object "java/util/Properties"), accessFlags := 10, slot := 11, constantValue := 0 }, { name := "lineSeparator", type := (.object "java/lang/String"), accessFlags := 10, slot := 12, constantValue := 0 }, { name := "bootLayer", type := (.object "java/lang/ModuleLayer"), accessFlags := 8, slot := 13, constantValue := 0 }]
  methods := #[k14m0, k14m1]
  instanceTypes := #[]
  staticTypes := #[(.object "java/io/InputStream"), (.object "java/io/PrintStream"), (.object "java/io/PrintStream"), (.object "java/io/InputStream"), .int, .int, .int, (.object "java/lang/SecurityManager"), (.object "java/lang/String"), (.object "java/io/Console"), (.object "java/io/PrintStream"), (.object "java/util/Properties"), (.object "java/lang/String"), (.object "java/lang/ModuleLayer")]
  resolved := Array.replicate 834 none
  statics := none }

def pool15 : Array CpInfo := pool [(2, .class_ 4), (1, u "java/lang/Object"), (0, u "<init>"), (0, u "()V"), (1, .class_ 10), (1, u "java/lang/CharacterData")] 75

def k15m0 : Method := { name := "<init>", desc := "()V", sig := { parameters := [], returnType := none }, accessFlags := 0, code := none }
/-- java/lang/CharacterData -/
def k15 : Class := { plain "java/lang/CharacterData" (some 0) with
  accessFlags := 1056
  interfaces := #[]
  cf := some (fileOf pool15 8 #[] #[{ accessFlags := 0, nameIndex := 5, descriptorIndex := 6, attributes := #[] }] 1056 2 #[] #[])
  fields := #[]
  methods := #[k15m0]
  instanceTypes := #[]
  staticTypes := #[]
  resolved := Array.replicate 86 none
  statics := none }

def pool16 : Array CpInfo := pool [(2, .class_ 4), (1, u "java/lang/CharacterDataLatin1"), (0, u "A"), (0, u "[I"), (2, u "B"), (0, u "[C"), (16, u "DIGITS"), (0, u "[B"), (8, u "sharpsMap"), (1, .class_ 41), (1, u "java/lang/CharacterData"), (0, u "<init>"), (0, u "()V"), (3, u "instance"), (0, u "Ljava/lang/CharacterDataLatin1;"), (66, u "equalsIgnoreCase"), (0, u "(BB)Z")] 24

def k16c0 : Code := { maxStack := 3, maxLocals := 3, code := jdk_116_method_22_code, exceptionTable := #[], attributes := #[] }
def k16m0 : Method := { name := "equalsIgnoreCase", desc := "(BB)Z", sig := { parameters := [.byte, .byte], returnType := some .boolean }, accessFlags := 8, code := some k16c0 }
def k16m1 : Method := { name := "<init>", desc := "()V", sig := { parameters := [], returnType := none }, accessFlags := 2, code := none }
/-- java/lang/CharacterDataLatin1 -/
def k16 : Class := { plain "java/lang/CharacterDataLatin1" (some 15) with
  accessFlags := 32
  interfaces := #[]
  cf := some (fileOf pool16 2 #[] #[{ accessFlags := 8, nameIndex := 115, descriptorIndex := 116, attributes := #[] }, { accessFlags := 2, nameIndex := 42, descriptorIndex := 43, attributes := #[] }] 32 39 #[] #[{ accessFlags := 26, nameIndex := 27, descriptorIndex := 28, attributes := #[] }, { accessFlags := 8, nameIndex := 37, descriptorIndex := 10, attributes := #[] }, { accessFlags := 24, nameIndex := 47, descriptorIndex := 48, attributes := #[] }, { accessFlags := 24, nameIndex := 5, descriptorIndex := 6, attributes := #[] }, { accessFlags := 24, nameIndex := 9, descriptorIndex := 10, attributes := #[] }])
  fields := #[{ name := "DIGITS", type := (.array .byte), accessFlags := 26, slot := 0, constantValue := 0 }, { name := "sharpsMap", type := (.array .char), accessFlags := 8, slot := 1, constantValue := 0 }, { name := "instance", type := (.object "java/lang/CharacterDataLatin1"), accessFlags := 24, slot := 2, constantValue := 0 }, { name := "A", type := (.array .int), accessFlags := 24, slot := 3, constantValue := 0 }, { name := "B", type := (.array .char), accessFlags := 24, slot := 4, constantValue := 0 }]
  methods := #[k16m0, k16m1]
  instanceTypes := #[]
  staticTypes := #[(.array .byte), (.array .char), (.object "java/lang/CharacterDataLatin1"), (.array .int), (.array .char)]
  resolved := Array.replicate 141 none
  statics := none }

def pool17 : Array CpInfo := pool [(9, u "<init>"), (6, .class_ 18), (1, u "java/lang/Object"), (0, u "()V"), (1, .class_ 23), (1, u "jdk/internal/util/ArraysSupport"), (0, u "LOG2_ARRAY_LONG_INDEX_SCALE"), (0, u "I"), (2, u "U"), (0, u "Ljdk/internal/misc/Unsafe;"), (8, u "BIG_ENDIAN"), (0, u "Z"), (8, u "LOG2_BYTE_BIT_SIZE"), (4, u "LOG2_ARRAY_INT_INDEX_SCALE"), (54, u "JLA"), (0, u "Ljdk/internal/access/JavaLangAccess;"), (11, u "LOG2_ARRAY_BOOLEAN_INDEX_SCALE"), (9, u "LOG2_ARRAY_BYTE_INDEX_SCALE"), (5, u "LOG2_ARRAY_CHAR_INDEX_SCALE"), (5, u "LOG2_ARRAY_SHORT_INDEX_SCALE"), (18, u "LOG2_ARRAY_FLOAT_INDEX_SCALE"), (24, u "LOG2_ARRAY_DOUBLE_INDEX_SCALE"), (89, u "T_BOOLEAN"), (2, u "T_CHAR"), (1, u "T_FLOAT"), (1, u "T_DOUBLE"), (1, u "T_BYTE"), (1, u "T_SHORT"), (1, u "T_INT"), (1, u "T_LONG"), (1, u "SOFT_MAX_ARRAY_LENGTH")] 83

def k17m0 : Method := { name := "<init>", desc := "()V", sig := { parameters := [], returnType := none }, accessFlags := 2, code := none }
/-- jdk/internal/util/ArraysSupport -/
def k17 : Class := { plain "jdk/internal/util/ArraysSupport" (some 0) with
  accessFlags := 33
  interfaces := #[]
  cf := some (fileOf pool17 21 #[] #[{ accessFlags := 2, nameIndex := 9, descriptorIndex := 19, attributes := #[] }] 33 16 #[] #[{ accessFlags := 24, nameIndex := 28, descriptorIndex := 29, attributes := #[] }, { accessFlags := 26, nameIndex := 38, descriptorIndex := 39, attributes := #[] }, { accessFlags := 25, nameIndex := 121, descriptorIndex := 25, attributes := #[] }, { accessFlags := 25, nameIndex := 131, descriptorIndex := 25, attributes := #[] }, { accessFlags := 25, nameIndex := 137, descriptorIndex := 25, attributes := #[] }, { accessFlags := 25, nameIndex := 143, descriptorIndex := 25, attributes := #[] }, { accessFlags := 25, nameIndex := 53, descriptorIndex := 25, attributes := #[] }, { accessFlags := 25, nameIndex := 24, descriptorIndex := 25, attributes := #[] }, { accessFlags := 25, nameIndex := 162, descriptorIndex := 25, attributes := #[] }, { accessFlags := 25, nameIndex := 187, descriptorIndex := 25, attributes := #[] }, { accessFlags := 26, nameIndex := 48, descriptorIndex := 25, attributes := #[] }, { accessFlags := 25, nameIndex := 277, descriptorIndex := 25, attributes := #[] }, { accessFlags := 25, nameIndex := 280, descriptorIndex := 25, attributes := #[] }, { accessFlags := 25, nameIndex := 282, descriptorIndex := 25, attributes := #[] }, { accessFlags := 25, nameIndex := 284, descriptorIndex := 25, attributes := #[] }, { accessFlags := 25, nameIndex := 286, descriptorIndex := 25, attributes := #[] }, { accessFlags := 25, nameIndex := 288, descriptorIndex := 25, attributes := #[] }, { accessFlags := 25, nameIndex := 290, descriptorIndex := 25, attributes := #[] }, { accessFlags := 25, nameIndex := 292, descriptorIndex := 25, attributes := #[] }, { accessFlags := 26, nameIndex := 108, descriptorIndex := 109, attributes := #[] }, { accessFlags := 25, nameIndex := 294, descriptorIndex := 25, attributes := #[] }])
  fields := #[{ name := "U", type := (.object "jdk/internal/misc/Unsafe"), accessFlags := 24, slot := 0, constantValue := 0 }, { name := "BIG_ENDIAN", type := .boolean, accessFlags := 26, slot := 1, constantValue := 0 }, { name := "LOG2_ARRAY_BOOLEAN_INDEX_SCALE", type := .int, accessFlags := 25, slot := 2, constantValue := 0 }, { name := "LOG2_ARRAY_BYTE_INDEX_SCALE", type := .int, accessFlags := 25, slot := 3, constantValue := 0 }, { name := "LOG2_ARRAY_CHAR_INDEX_SCALE", type := .int, accessFlags := 25, slot := 4, constantValue := 0 }, { name := "LOG2_ARRAY_SHORT_INDEX_SCALE", type := .int, accessFlags := 25, slot := 5, constantValue := 0 }, { name := "LOG2_ARRAY_INT_INDEX_SCALE", type := .int, accessFlags := 25, slot := 6, constantValue := 0 }, { name := "LOG2_ARRAY_LONG_INDEX_SCALE", type := .int, accessFlags := 25, slot := 7, constantValue := 0 }, { name := "LOG2_ARRAY_FLOAT_INDEX_SCALE", type := .int, accessFlags := 25, slot := 8, constantValue := 0 }, { name := "LOG2_ARRAY_DOUBLE_INDEX_SCALE", type := .int, accessFlags := 25, slot := 9, constantValue := 0 }, { name := "LOG2_BYTE_BIT_SIZE", type := .int, accessFlags := 26, slot := 10, constantValue := 0 }, { name := "T_BOOLEAN", type := .int, accessFlags := 25, slot := 11, constantValue := 0 }, { name := "T_CHAR", type := .int, accessFlags := 25, slot := 12, constantValue := 0 }, { name := "T_FLOAT", type := .int, accessFlags := 25, slot := 13, constantValue := 0 }, { name := "T_DOUBLE", type := .int, accessFlags := 25, slot := 14, constantValue := 0 }, { name := "T_BYTE", type := .int, accessFlags := 25, slot := 15, constantValue := 0 }, { name := "T_SHORT", type := .int, accessFlags := 25, slot := 16, constantValue := 0 }, { name := "T_INT", type := .int, accessFlags := 25, slot := 17, constantValue := 0 }, { name := "T_LONG", type := .int, accessFlags := 25, slot := 18, constantValue := 0 }, { name := "JLA", type := (.object "jdk/internal/access/JavaLangAccess"), accessFlags := 26, slot := 19, constantValue := 0 }, { name := "SOFT_MAX_ARRAY_LENGTH", type := .int, accessFlags := 25, slot := 20, constantValue := 0 }]
  methods := #[k17m0]
  instanceTypes := #[]
  staticTypes := #[(.object "jdk/internal/misc/Unsafe"), .boolean, .int, .int, .int, .int, .int, .int, .int, .int, .int, .int, .int, .int, .int, .int, .int, .int, .int, (.object "jdk/internal/access/JavaLangAccess"), .int]
  resolved := Array.replicate 378 none
  statics := none }

def pool18 : Array CpInfo := pool [(1, u "java/lang/Cloneable"), (0, .class_ 1), (0, u "java/lang/Object"), (0, .class_ 3)] 3

/-- java/lang/Cloneable -/
def k18 : Class := { plain "java/lang/Cloneable" (some 0) with
  accessFlags := 1537
  interfaces := #[]
  cf := some (fileOf pool18 2 #[] #[] 1537 4 #[] #[])
  fields := #[]
  methods := #[]
  instanceTypes := #[]
  staticTypes := #[]
  resolved := Array.replicate 8 none
  statics := none }

/-- the primitive byte -/
def k19 : Class := { plain "byte" none with kind := .primitive 'B', accessFlags := 0x411 }
/-- [B -/
def k20 : Class := { plain "[B" (some 0) with kind := .array 19 .byte, interfaces := #[18, 2], accessFlags := 1041 }

/-- the primitive char -/
def k21 : Class := { plain "char" none with kind := .primitive 'C', accessFlags := 0x411 }
/-- [C -/
def k22 : Class := { plain "[C" (some 0) with kind := .array 21 .char, interfaces := #[18, 2], accessFlags := 1041 }

def heap : Heap := #[{ cls := 7, slots := #[.long 0, .int 1, .null, .int 0, .null, .int 0, .int 0], vm := .statics 7 },
  { cls := 12, slots := #[.null, .null, .null], vm := .statics 12 }]
def classes : Array Class := #[k0, k1, k2, k3, k4, k5, k6, k7, k8, k9, k10, k11, k12, k13, k14, k15, k16, k17, k18, k19, k20, k21, k22]
def interned : List (Array UInt16 × Addr) := []
def slotsUsed : Nat := 10
def theMethod : MethodId := ⟨1, 1⟩
def args0 : Array Value := #[.long 17, .long 99, .int 7]
def aboutOver (below : List Frame) : State where
  vm := { classes := classes, interned := interned.toArray }
  heap := heap
  slotsUsed := slotsUsed
  threads := #[{ frames := .invoking theMethod args0 :: below }]
def below0 : List Frame := [.native { method := ⟨0, 0⟩, args := #[] }]
def about1 : State := aboutOver below0
def p0 : Program := .bare "" "" ""
def e0 : Env := launch0.env 0 0 0
theorem w_frames : about1.frames = Frame.invoking theMethod args0 :: below0 := rfl
set_option maxRecDepth 65536 in
theorem w_args : argsFit about1.vm theMethod args0 = true := by decide +kernel
set_option maxRecDepth 65536 in
theorem w_heap : heapFits about1 = true := by decide +kernel
set_option maxRecDepth 65536 in
theorem w_runnable : about1.curStatus? = some .runnable := by decide +kernel
set_option maxRecDepth 65536 in
theorem w_alone : about1.alone = true := by decide +kernel
set_option maxRecDepth 65536 in
theorem w_named : about1.methodNamed? x = some theMethod := by decide +kernel
set_option maxRecDepth 65536 in
theorem w_hears : about1.hears theMethod below0 = true := by decide +kernel
set_option maxRecDepth 65536 in
theorem w_ripe : about1.ripe theMethod args0 below0 = true := by decide +kernel
theorem w_running : about1.status = .running := rfl
set_option maxRecDepth 65536 in
theorem w_room : about1.hasRoom e0.platform room_1 = true :=
  launch0.hasRoom_least _ room_1 (by decide +kernel) (by decide +kernel) (by decide +kernel) (by decide +kernel) (by decide +kernel) (by decide +kernel)
theorem allAtoms_all (ts : List Jvm.Cond) (a : Array Jvm.Value) (st : Jvm.State) : (allAtoms ts).before a st = ts.all (fun c => c.before a st) := by
  induction ts with
  | nil => rfl
  | cons c t ih =>
    show (Jvm.Cond.and c (allAtoms t)).before a st = _
    rw [Jvm.Cond.before_and, ih, List.all_cons]
def words1 : List Jvm.Cond := Jvm.Cond.code x code maxLocals ret :: tables_1
/-- a 'code' word, met by the world's own term for the bytes: nothing is compared byte by byte -/
theorem code_word {y : MethodName} {bytes : ByteArray} {mx : Nat} {rt : Option FieldType} {a : Array Value} {s : State} {m : MethodId} {meth : Method} {c : Code} (h1 : s.methodNamed? y = some m) (h2 : s.vm.method? m = some meth) (h3 : meth.code = some c) (h4 : c.code = bytes)
    (h5 : (c.maxLocals == mx && c.exceptionTable.isEmpty && decide (c.maxStack ≤ mostOperands) && decide (meth.sig.returnType = rt) && !meth.locks && decide (parseMethodDescriptor y.desc = some meth.sig)) = true) : (Jvm.Cond.code y bytes mx rt).before a s = true := by
  simp only [Bool.and_eq_true, beq_iff_eq, Bool.not_eq_true', decide_eq_true_eq] at h5
  obtain ⟨⟨⟨⟨⟨g1, g2⟩, g3⟩, g4⟩, g5⟩, g6⟩ := h5
  simp [Cond.before, Cond.holds, Cond.value, h1, h2, h3, h4, g1, g2, g3, g4, g5, g6]
def isCode : Jvm.Cond → Bool
  | .code _ _ _ _ => true
  | _ => false
theorem all_split {L : List Jvm.Cond} {P : Jvm.Cond → Bool} (h1 : L.all (fun c => isCode c || P c) = true) (h2 : ∀ c ∈ L.filter isCode, P c = true) : L.all P = true := by
  refine List.all_eq_true.mpr fun c hc => ?_
  have h := List.all_eq_true.mp h1 c hc
  rcases Bool.eq_false_or_eq_true (isCode c) with hi | hi
  · exact h2 c (List.mem_filter.mpr ⟨hc, hi⟩)
  · simpa [hi] using h
set_option maxRecDepth 65536 in
theorem w_c0 : (Jvm.Cond.code x code maxLocals ret).before args0 about1 = true := code_word (m := ⟨1, 1⟩) (meth := k1m1) (c := k1c1) (by decide +kernel) rfl rfl rfl (by decide +kernel)
set_option maxRecDepth 65536 in
theorem w_c1 : (Jvm.Cond.code ({ cls := "com/example/same_answer/sameanswer/MediaTypeParameterPinLaw", name := "letter", desc := "(I)C" } : Jvm.MethodName) method_4_code (1 : Nat) (Option.some Jvm.ClassFile.FieldType.char)).before args0 about1 = true := code_word (m := ⟨1, 3⟩) (meth := k1m3) (c := k1c3) (by decide +kernel) rfl rfl rfl (by decide +kernel)
set_option maxRecDepth 65536 in
theorem w_c2 : (Jvm.Cond.code ({ cls := "java/lang/String", name := "valueOf", desc := "(C)Ljava/lang/String;" } : Jvm.MethodName) jdk_42_method_139_code (1 : Nat) (Option.some (Jvm.ClassFile.FieldType.object "java/lang/String"))).before args0 about1 = true := code_word (m := ⟨7, 11⟩) (meth := k7m11) (c := k7c11) (by decide +kernel) rfl rfl rfl (by decide +kernel)
set_option maxRecDepth 65536 in
theorem w_c3 : (Jvm.Cond.code ({ cls := "java/lang/StringLatin1", name := "canEncode", desc := "(C)Z" } : Jvm.MethodName) jdk_43_method_3_code (1 : Nat) (Option.some Jvm.ClassFile.FieldType.boolean)).before args0 about1 = true := code_word (m := ⟨8, 2⟩) (meth := k8m2) (c := k8c2) (by decide +kernel) rfl rfl rfl (by decide +kernel)
set_option maxRecDepth 65536 in
theorem w_c4 : (Jvm.Cond.code ({ cls := "java/lang/StringLatin1", name := "toBytes", desc := "(C)[B" } : Jvm.MethodName) jdk_43_method_46_code (1 : Nat) (Option.some (Jvm.ClassFile.FieldType.array Jvm.ClassFile.FieldType.byte))).before args0 about1 = true := code_word (m := ⟨8, 8⟩) (meth := k8m8) (c := k8c8) (by decide +kernel) rfl rfl rfl (by decide +kernel)
set_option maxRecDepth 65536 in
theorem w_c5 : (Jvm.Cond.code ({ cls := "java/lang/String", name := "<init>", desc := "([BB)V" } : Jvm.MethodName) jdk_42_method_151_code (3 : Nat) (Option.none : Option Jvm.ClassFile.FieldType)).before args0 about1 = true := code_word (m := ⟨7, 13⟩) (meth := k7m13) (c := k7c13) (by decide +kernel) rfl rfl rfl (by decide +kernel)
set_option maxRecDepth 65536 in
theorem w_c6 : (Jvm.Cond.code ({ cls := "java/lang/Object", name := "<init>", desc := "()V" } : Jvm.MethodName) object_method_1_code (1 : Nat) (Option.none : Option Jvm.ClassFile.FieldType)).before args0 about1 = true := code_word (m := ⟨0, 0⟩) (meth := k0m0) (c := k0c0) (by decide +kernel) rfl rfl rfl (by decide +kernel)
set_option maxRecDepth 65536 in
theorem w_c7 : (Jvm.Cond.code ({ cls := "com/example/same_answer/sameanswer/MediaTypeParameterPinLaw", name := "ch", desc := "(JI)C" } : Jvm.MethodName) method_3_code (3 : Nat) (Option.some Jvm.ClassFile.FieldType.char)).before args0 about1 = true := code_word (m := ⟨1, 2⟩) (meth := k1m2) (c := k1c2) (by decide +kernel) rfl rfl rfl (by decide +kernel)
set_option maxRecDepth 65536 in
theorem w_c8 : (Jvm.Cond.code ({ cls := "com/example/same_answer/sameanswer/MediaType", name := "parameter", desc := "(Ljava/lang/String;Ljava/lang/String;)Ljava/lang/String;" } : Jvm.MethodName) prog_10_method_3_code (8 : Nat) (Option.some (Jvm.ClassFile.FieldType.object "java/lang/String"))).before args0 about1 = true := code_word (m := ⟨9, 1⟩) (meth := k9m1) (c := k9c1) (by decide +kernel) rfl rfl rfl (by decide +kernel)
set_option maxRecDepth 65536 in
theorem w_c9 : (Jvm.Cond.code ({ cls := "com/example/same_answer/sameanswer/MediaTypeParameterPinLaw", name := "noQuote", desc := "(C)C" } : Jvm.MethodName) method_6_code (1 : Nat) (Option.some Jvm.ClassFile.FieldType.char)).before args0 about1 = true := code_word (m := ⟨1, 5⟩) (meth := k1m5) (c := k1c5) (by decide +kernel) rfl rfl rfl (by decide +kernel)
set_option maxRecDepth 65536 in
theorem w_c10 : (Jvm.Cond.code ({ cls := "com/example/same_answer/sameanswer/MediaTypeParameterPinLaw", name := "noSemi", desc := "(C)C" } : Jvm.MethodName) method_5_code (1 : Nat) (Option.some Jvm.ClassFile.FieldType.char)).before args0 about1 = true := code_word (m := ⟨1, 4⟩) (meth := k1m4) (c := k1c4) (by decide +kernel) rfl rfl rfl (by decide +kernel)
set_option maxRecDepth 65536 in
theorem w_c11 : (Jvm.Cond.code ({ cls := "java/lang/String", name := "<init>", desc := "([C)V" } : Jvm.MethodName) jdk_42_method_3_code (2 : Nat) (Option.none : Option Jvm.ClassFile.FieldType)).before args0 about1 = true := code_word (m := ⟨7, 1⟩) (meth := k7m1) (c := k7c1) (by decide +kernel) rfl rfl rfl (by decide +kernel)
set_option maxRecDepth 65536 in
theorem w_c12 : (Jvm.Cond.code ({ cls := "java/lang/String", name := "<init>", desc := "([CIILjava/lang/Void;)V" } : Jvm.MethodName) jdk_42_method_149_code (6 : Nat) (Option.none : Option Jvm.ClassFile.FieldType)).before args0 about1 = true := code_word (m := ⟨7, 12⟩) (meth := k7m12) (c := k7c12) (by decide +kernel) rfl rfl rfl (by decide +kernel)
set_option maxRecDepth 65536 in
theorem w_c13 : (Jvm.Cond.code ({ cls := "java/lang/StringUTF16", name := "compress", desc := "([CII)[B" } : Jvm.MethodName) jdk_52_method_16_code (6 : Nat) (Option.some (Jvm.ClassFile.FieldType.array Jvm.ClassFile.FieldType.byte))).before args0 about1 = true := code_word (m := ⟨10, 2⟩) (meth := k10m2) (c := k10c2) (by decide +kernel) rfl rfl rfl (by decide +kernel)
set_option maxRecDepth 65536 in
theorem w_c14 : (Jvm.Cond.code ({ cls := "java/lang/StringUTF16", name := "compress", desc := "([CI[BII)I" } : Jvm.MethodName) jdk_52_method_21_code (7 : Nat) (Option.some Jvm.ClassFile.FieldType.int)).before args0 about1 = true := code_word (m := ⟨10, 3⟩) (meth := k10m3) (c := k10c3) (by decide +kernel) rfl rfl rfl (by decide +kernel)
set_option maxRecDepth 65536 in
theorem w_c15 : (Jvm.Cond.code ({ cls := "java/lang/StringUTF16", name := "coderFromArrayLen", desc := "([BI)B" } : Jvm.MethodName) jdk_52_method_15_code (2 : Nat) (Option.some Jvm.ClassFile.FieldType.byte)).before args0 about1 = true := code_word (m := ⟨10, 1⟩) (meth := k10m1) (c := k10c1) (by decide +kernel) rfl rfl rfl (by decide +kernel)
set_option maxRecDepth 65536 in
theorem w_c16 : (Jvm.Cond.code ({ cls := "java/lang/String", name := "indexOf", desc := "(I)I" } : Jvm.MethodName) jdk_42_method_79_code (2 : Nat) (Option.some Jvm.ClassFile.FieldType.int)).before args0 about1 = true := code_word (m := ⟨7, 7⟩) (meth := k7m7) (c := k7c7) (by decide +kernel) rfl rfl rfl (by decide +kernel)
set_option maxRecDepth 65536 in
theorem w_c17 : (Jvm.Cond.code ({ cls := "java/lang/String", name := "indexOf", desc := "(II)I" } : Jvm.MethodName) jdk_42_method_80_code (3 : Nat) (Option.some Jvm.ClassFile.FieldType.int)).before args0 about1 = true := code_word (m := ⟨7, 8⟩) (meth := k7m8) (c := k7c8) (by decide +kernel) rfl rfl rfl (by decide +kernel)
set_option maxRecDepth 65536 in
theorem w_c18 : (Jvm.Cond.code ({ cls := "java/lang/String", name := "isLatin1", desc := "()Z" } : Jvm.MethodName) jdk_42_method_154_code (1 : Nat) (Option.some Jvm.ClassFile.FieldType.boolean)).before args0 about1 = true := code_word (m := ⟨7, 15⟩) (meth := k7m15) (c := k7c15) (by decide +kernel) rfl rfl rfl (by decide +kernel)
set_option maxRecDepth 65536 in
theorem w_c19 : (Jvm.Cond.code ({ cls := "java/lang/String", name := "length", desc := "()I" } : Jvm.MethodName) jdk_42_method_54_code (1 : Nat) (Option.some Jvm.ClassFile.FieldType.int)).before args0 about1 = true := code_word (m := ⟨7, 2⟩) (meth := k7m2) (c := k7c2) (by decide +kernel) rfl rfl rfl (by decide +kernel)
set_option maxRecDepth 65536 in
theorem w_c20 : (Jvm.Cond.code ({ cls := "java/lang/String", name := "coder", desc := "()B" } : Jvm.MethodName) jdk_42_method_152_code (1 : Nat) (Option.some Jvm.ClassFile.FieldType.byte)).before args0 about1 = true := code_word (m := ⟨7, 14⟩) (meth := k7m14) (c := k7c14) (by decide +kernel) rfl rfl rfl (by decide +kernel)
set_option maxRecDepth 65536 in
theorem w_c21 : (Jvm.Cond.code ({ cls := "java/lang/StringLatin1", name := "indexOf", desc := "([BIII)I" } : Jvm.MethodName) jdk_43_method_22_code (4 : Nat) (Option.some Jvm.ClassFile.FieldType.int)).before args0 about1 = true := code_word (m := ⟨8, 4⟩) (meth := k8m4) (c := k8c4) (by decide +kernel) rfl rfl rfl (by decide +kernel)
set_option maxRecDepth 65536 in
theorem w_c22 : (Jvm.Cond.code ({ cls := "java/lang/StringLatin1", name := "canEncode", desc := "(I)Z" } : Jvm.MethodName) jdk_43_method_4_code (1 : Nat) (Option.some Jvm.ClassFile.FieldType.boolean)).before args0 about1 = true := code_word (m := ⟨8, 3⟩) (meth := k8m3) (c := k8c3) (by decide +kernel) rfl rfl rfl (by decide +kernel)
set_option maxRecDepth 65536 in
theorem w_c23 : (Jvm.Cond.code ({ cls := "java/lang/Math", name := "max", desc := "(II)I" } : Jvm.MethodName) jdk_29_method_65_code (2 : Nat) (Option.some Jvm.ClassFile.FieldType.int)).before args0 about1 = true := code_word (m := ⟨11, 1⟩) (meth := k11m1) (c := k11c1) (by decide +kernel) rfl rfl rfl (by decide +kernel)
set_option maxRecDepth 65536 in
theorem w_c24 : (Jvm.Cond.code ({ cls := "java/lang/Math", name := "min", desc := "(II)I" } : Jvm.MethodName) jdk_29_method_69_code (2 : Nat) (Option.some Jvm.ClassFile.FieldType.int)).before args0 about1 = true := code_word (m := ⟨11, 2⟩) (meth := k11m2) (c := k11c2) (by decide +kernel) rfl rfl rfl (by decide +kernel)
set_option maxRecDepth 65536 in
theorem w_c25 : (Jvm.Cond.code ({ cls := "java/lang/StringLatin1", name := "indexOfChar", desc := "([BIII)I" } : Jvm.MethodName) jdk_43_method_23_code (6 : Nat) (Option.some Jvm.ClassFile.FieldType.int)).before args0 about1 = true := code_word (m := ⟨8, 5⟩) (meth := k8m5) (c := k8c5) (by decide +kernel) rfl rfl rfl (by decide +kernel)
set_option maxRecDepth 65536 in
theorem w_c26 : (Jvm.Cond.code ({ cls := "java/lang/String", name := "substring", desc := "(II)Ljava/lang/String;" } : Jvm.MethodName) jdk_42_method_92_code (5 : Nat) (Option.some (Jvm.ClassFile.FieldType.object "java/lang/String"))).before args0 about1 = true := code_word (m := ⟨7, 9⟩) (meth := k7m9) (c := k7c9) (by decide +kernel) rfl rfl rfl (by decide +kernel)
set_option maxRecDepth 65536 in
theorem w_c27 : (Jvm.Cond.code ({ cls := "java/lang/String", name := "checkBoundsBeginEnd", desc := "(III)V" } : Jvm.MethodName) jdk_42_method_158_code (3 : Nat) (Option.none : Option Jvm.ClassFile.FieldType)).before args0 about1 = true := code_word (m := ⟨7, 17⟩) (meth := k7m17) (c := k7c17) (by decide +kernel) rfl rfl rfl (by decide +kernel)
set_option maxRecDepth 65536 in
theorem w_c28 : (Jvm.Cond.code ({ cls := "jdk/internal/util/Preconditions", name := "checkFromToIndex", desc := "(IIILjava/util/function/BiFunction;)I" } : Jvm.MethodName) jdk_41_method_12_code (4 : Nat) (Option.some Jvm.ClassFile.FieldType.int)).before args0 about1 = true := code_word (m := ⟨12, 2⟩) (meth := k12m2) (c := k12c2) (by decide +kernel) rfl rfl rfl (by decide +kernel)
set_option maxRecDepth 65536 in
theorem w_c29 : (Jvm.Cond.code ({ cls := "java/lang/StringLatin1", name := "newString", desc := "([BII)Ljava/lang/String;" } : Jvm.MethodName) jdk_43_method_47_code (3 : Nat) (Option.some (Jvm.ClassFile.FieldType.object "java/lang/String"))).before args0 about1 = true := code_word (m := ⟨8, 9⟩) (meth := k8m9) (c := k8c9) (by decide +kernel) rfl rfl rfl (by decide +kernel)
set_option maxRecDepth 65536 in
theorem w_c30 : (Jvm.Cond.code ({ cls := "java/util/Arrays", name := "copyOfRange", desc := "([BII)[B" } : Jvm.MethodName) jdk_65_method_132_code (3 : Nat) (Option.some (Jvm.ClassFile.FieldType.array Jvm.ClassFile.FieldType.byte))).before args0 about1 = true := code_word (m := ⟨13, 2⟩) (meth := k13m2) (c := k13c2) (by decide +kernel) rfl rfl rfl (by decide +kernel)
set_option maxRecDepth 65536 in
theorem w_c31 : (Jvm.Cond.code ({ cls := "java/util/Arrays", name := "copyOfRangeByte", desc := "([BII)[B" } : Jvm.MethodName) jdk_65_method_133_code (5 : Nat) (Option.some (Jvm.ClassFile.FieldType.array Jvm.ClassFile.FieldType.byte))).before args0 about1 = true := code_word (m := ⟨13, 3⟩) (meth := k13m3) (c := k13c3) (by decide +kernel) rfl rfl rfl (by decide +kernel)
set_option maxRecDepth 65536 in
theorem w_c32 : (Jvm.Cond.code ({ cls := "java/util/Arrays", name := "checkLength", desc := "(II)V" } : Jvm.MethodName) jdk_65_method_131_code (2 : Nat) (Option.none : Option Jvm.ClassFile.FieldType)).before args0 about1 = true := code_word (m := ⟨13, 1⟩) (meth := k13m1) (c := k13c1) (by decide +kernel) rfl rfl rfl (by decide +kernel)
set_option maxRecDepth 65536 in
theorem w_c33 : (Jvm.Cond.code ({ cls := "java/lang/String", name := "trim", desc := "()Ljava/lang/String;" } : Jvm.MethodName) jdk_42_method_113_code (2 : Nat) (Option.some (Jvm.ClassFile.FieldType.object "java/lang/String"))).before args0 about1 = true := code_word (m := ⟨7, 10⟩) (meth := k7m10) (c := k7c10) (by decide +kernel) rfl rfl rfl (by decide +kernel)
set_option maxRecDepth 65536 in
theorem w_c34 : (Jvm.Cond.code ({ cls := "java/lang/StringLatin1", name := "trim", desc := "([B)Ljava/lang/String;" } : Jvm.MethodName) jdk_43_method_36_code (3 : Nat) (Option.some (Jvm.ClassFile.FieldType.object "java/lang/String"))).before args0 about1 = true := code_word (m := ⟨8, 7⟩) (meth := k8m7) (c := k8c7) (by decide +kernel) rfl rfl rfl (by decide +kernel)
set_option maxRecDepth 65536 in
theorem w_c35 : (Jvm.Cond.code ({ cls := "java/lang/String", name := "charAt", desc := "(I)C" } : Jvm.MethodName) jdk_42_method_56_code (2 : Nat) (Option.some Jvm.ClassFile.FieldType.char)).before args0 about1 = true := code_word (m := ⟨7, 4⟩) (meth := k7m4) (c := k7c4) (by decide +kernel) rfl rfl rfl (by decide +kernel)
set_option maxRecDepth 65536 in
theorem w_c36 : (Jvm.Cond.code ({ cls := "java/lang/StringLatin1", name := "charAt", desc := "([BI)C" } : Jvm.MethodName) jdk_43_method_2_code (2 : Nat) (Option.some Jvm.ClassFile.FieldType.char)).before args0 about1 = true := code_word (m := ⟨8, 1⟩) (meth := k8m1) (c := k8c1) (by decide +kernel) rfl rfl rfl (by decide +kernel)
set_option maxRecDepth 65536 in
theorem w_c37 : (Jvm.Cond.code ({ cls := "java/lang/String", name := "checkIndex", desc := "(II)V" } : Jvm.MethodName) jdk_42_method_155_code (2 : Nat) (Option.none : Option Jvm.ClassFile.FieldType)).before args0 about1 = true := code_word (m := ⟨7, 16⟩) (meth := k7m16) (c := k7c16) (by decide +kernel) rfl rfl rfl (by decide +kernel)
set_option maxRecDepth 65536 in
theorem w_c38 : (Jvm.Cond.code ({ cls := "jdk/internal/util/Preconditions", name := "checkIndex", desc := "(IILjava/util/function/BiFunction;)I" } : Jvm.MethodName) jdk_41_method_11_code (3 : Nat) (Option.some Jvm.ClassFile.FieldType.int)).before args0 about1 = true := code_word (m := ⟨12, 1⟩) (meth := k12m1) (c := k12c1) (by decide +kernel) rfl rfl rfl (by decide +kernel)
set_option maxRecDepth 65536 in
theorem w_c39 : (Jvm.Cond.code ({ cls := "java/lang/String", name := "equalsIgnoreCase", desc := "(Ljava/lang/String;)Z" } : Jvm.MethodName) jdk_42_method_70_code (2 : Nat) (Option.some Jvm.ClassFile.FieldType.boolean)).before args0 about1 = true := code_word (m := ⟨7, 5⟩) (meth := k7m5) (c := k7c5) (by decide +kernel) rfl rfl rfl (by decide +kernel)
set_option maxRecDepth 65536 in
theorem w_c40 : (Jvm.Cond.code ({ cls := "java/lang/String", name := "regionMatches", desc := "(ZILjava/lang/String;II)Z" } : Jvm.MethodName) jdk_42_method_74_code (9 : Nat) (Option.some Jvm.ClassFile.FieldType.boolean)).before args0 about1 = true := code_word (m := ⟨7, 6⟩) (meth := k7m6) (c := k7c6) (by decide +kernel) rfl rfl rfl (by decide +kernel)
set_option maxRecDepth 65536 in
theorem w_c41 : (Jvm.Cond.code ({ cls := "java/lang/StringLatin1", name := "regionMatchesCI", desc := "([BI[BII)Z" } : Jvm.MethodName) jdk_43_method_30_code (8 : Nat) (Option.some Jvm.ClassFile.FieldType.boolean)).before args0 about1 = true := code_word (m := ⟨8, 6⟩) (meth := k8m6) (c := k8c6) (by decide +kernel) rfl rfl rfl (by decide +kernel)
set_option maxRecDepth 65536 in
theorem w_c42 : (Jvm.Cond.code ({ cls := "java/lang/CharacterDataLatin1", name := "equalsIgnoreCase", desc := "(BB)Z" } : Jvm.MethodName) jdk_116_method_22_code (3 : Nat) (Option.some Jvm.ClassFile.FieldType.boolean)).before args0 about1 = true := code_word (m := ⟨16, 0⟩) (meth := k16m0) (c := k16c0) (by decide +kernel) rfl rfl rfl (by decide +kernel)
set_option maxRecDepth 65536 in
theorem w_c43 : (Jvm.Cond.code ({ cls := "com/example/same_answer/sameanswer/MediaTypeParameterPinLaw", name := "same", desc := "(Ljava/lang/String;[CII)Z" } : Jvm.MethodName) method_10_code (5 : Nat) (Option.some Jvm.ClassFile.FieldType.boolean)).before args0 about1 = true := code_word (m := ⟨1, 9⟩) (meth := k1m9) (c := k1c9) (by decide +kernel) rfl rfl rfl (by decide +kernel)
set_option maxRecDepth 65536 in
theorem w_c44 : (Jvm.Cond.code ({ cls := "com/example/same_answer/sameanswer/MediaTypeParameterPinLaw", name := "trimmed", desc := "(Ljava/lang/String;[CI)Z" } : Jvm.MethodName) method_9_code (5 : Nat) (Option.some Jvm.ClassFile.FieldType.boolean)).before args0 about1 = true := code_word (m := ⟨1, 8⟩) (meth := k1m8) (c := k1c8) (by decide +kernel) rfl rfl rfl (by decide +kernel)
set_option maxRecDepth 65536 in
theorem w_c45 : (Jvm.Cond.code ({ cls := "com/example/same_answer/sameanswer/MediaTypeParameterPinLaw", name := "lo4", desc := "([CI)I" } : Jvm.MethodName) method_7_code (2 : Nat) (Option.some Jvm.ClassFile.FieldType.int)).before args0 about1 = true := code_word (m := ⟨1, 6⟩) (meth := k1m6) (c := k1c6) (by decide +kernel) rfl rfl rfl (by decide +kernel)
set_option maxRecDepth 65536 in
theorem w_c46 : (Jvm.Cond.code ({ cls := "com/example/same_answer/sameanswer/MediaTypeParameterPinLaw", name := "hi4", desc := "([CI)I" } : Jvm.MethodName) method_8_code (2 : Nat) (Option.some Jvm.ClassFile.FieldType.int)).before args0 about1 = true := code_word (m := ⟨1, 7⟩) (meth := k1m7) (c := k1c7) (by decide +kernel) rfl rfl rfl (by decide +kernel)
set_option maxRecDepth 65536 in
theorem w_c47 : (Jvm.Cond.code ({ cls := "java/lang/String", name := "isEmpty", desc := "()Z" } : Jvm.MethodName) jdk_42_method_55_code (1 : Nat) (Option.some Jvm.ClassFile.FieldType.boolean)).before args0 about1 = true := code_word (m := ⟨7, 3⟩) (meth := k7m3) (c := k7c3) (by decide +kernel) rfl rfl rfl (by decide +kernel)
def codes1 : List Jvm.Cond := [Jvm.Cond.code x code maxLocals ret, Jvm.Cond.code ({ cls := "com/example/same_answer/sameanswer/MediaTypeParameterPinLaw", name := "letter", desc := "(I)C" } : Jvm.MethodName) method_4_code (1 : Nat) (Option.some Jvm.ClassFile.FieldType.char), Jvm.Cond.code ({ cls := "java/lang/String", name := "valueOf", desc := "(C)Ljava/lang/String;" } : Jvm.MethodName) jdk_42_method_139_code (1 : Nat) (Option.some (Jvm.ClassFile.FieldType.object "java/lang/String")), Jvm.Cond.code ({ cls := "java/lang/StringLatin1", name := "canEncode", desc := "(C)Z" } : Jvm.MethodName) jdk_43_method_3_code (1 : Nat) (Option.some Jvm.ClassFile.FieldType.boolean), Jvm.Cond.code ({ cls := "java/lang/StringLatin1", name := "toBytes", desc := "(C)[B" } : Jvm.MethodName) jdk_43_method_46_code (1 : Nat) (Option.some (Jvm.ClassFile.FieldType.array Jvm.ClassFile.FieldType.byte)), Jvm.Cond.code ({ cls := "java/lang/String", name := "<init>", desc := "([BB)V" } : Jvm.MethodName) jdk_42_method_151_code (3 : Nat) (Option.none : Option Jvm.ClassFile.FieldType), Jvm.Cond.code ({ cls := "java/lang/Object", name := "<init>", desc := "()V" } : Jvm.MethodName) object_method_1_code (1 : Nat) (Option.none : Option Jvm.ClassFile.FieldType), Jvm.Cond.code ({ cls := "com/example/same_answer/sameanswer/MediaTypeParameterPinLaw", name := "ch", desc := "(JI)C" } : Jvm.MethodName) method_3_code (3 : Nat) (Option.some Jvm.ClassFile.FieldType.char), Jvm.Cond.code ({ cls := "com/example/same_answer/sameanswer/MediaType", name := "parameter", desc := "(Ljava/lang/String;Ljava/lang/String;)Ljava/lang/String;" } : Jvm.MethodName) prog_10_method_3_code (8 : Nat) (Option.some (Jvm.ClassFile.FieldType.object "java/lang/String")), Jvm.Cond.code ({ cls := "com/example/same_answer/sameanswer/MediaTypeParameterPinLaw", name := "noQuote", desc := "(C)C" } : Jvm.MethodName) method_6_code (1 : Nat) (Option.some Jvm.ClassFile.FieldType.char), Jvm.Cond.code ({ cls := "com/example/same_answer/sameanswer/MediaTypeParameterPinLaw", name := "noSemi", desc := "(C)C" } : Jvm.MethodName) method_5_code (1 : Nat) (Option.some Jvm.ClassFile.FieldType.char), Jvm.Cond.code ({ cls := "java/lang/String", name := "<init>", desc := "([C)V" } : Jvm.MethodName) jdk_42_method_3_code (2 : Nat) (Option.none : Option Jvm.ClassFile.FieldType), Jvm.Cond.code ({ cls := "java/lang/String", name := "<init>", desc := "([CIILjava/lang/Void;)V" } : Jvm.MethodName) jdk_42_method_149_code (6 : Nat) (Option.none : Option Jvm.ClassFile.FieldType), Jvm.Cond.code ({ cls := "java/lang/StringUTF16", name := "compress", desc := "([CII)[B" } : Jvm.MethodName) jdk_52_method_16_code (6 : Nat) (Option.some (Jvm.ClassFile.FieldType.array Jvm.ClassFile.FieldType.byte)), Jvm.Cond.code ({ cls := "java/lang/StringUTF16", name := "compress", desc := "([CI[BII)I" } : Jvm.MethodName) jdk_52_method_21_code (7 : Nat) (Option.some Jvm.ClassFile.FieldType.int), Jvm.Cond.code ({ cls := "java/lang/StringUTF16", name := "coderFromArrayLen", desc := "([BI)B" } : Jvm.MethodName) jdk_52_method_15_code (2 : Nat) (Option.some Jvm.ClassFile.FieldType.byte), Jvm.Cond.code ({ cls := "java/lang/String", name := "indexOf", desc := "(I)I" } : Jvm.MethodName) jdk_42_method_79_code (2 : Nat) (Option.some Jvm.ClassFile.FieldType.int), Jvm.Cond.code ({ cls := "java/lang/String", name := "indexOf", desc := "(II)I" } : Jvm.MethodName) jdk_42_method_80_code (3 : Nat) (Option.some Jvm.ClassFile.FieldType.int), Jvm.Cond.code ({ cls := "java/lang/String", name := "isLatin1", desc := "()Z" } : Jvm.MethodName) jdk_42_method_154_code (1 : Nat) (Option.some Jvm.ClassFile.FieldType.boolean), Jvm.Cond.code ({ cls := "java/lang/String", name := "length", desc := "()I" } : Jvm.MethodName) jdk_42_method_54_code (1 : Nat) (Option.some Jvm.ClassFile.FieldType.int), Jvm.Cond.code ({ cls := "java/lang/String", name := "coder", desc := "()B" } : Jvm.MethodName) jdk_42_method_152_code (1 : Nat) (Option.some Jvm.ClassFile.FieldType.byte), Jvm.Cond.code ({ cls := "java/lang/StringLatin1", name := "indexOf", desc := "([BIII)I" } : Jvm.MethodName) jdk_43_method_22_code (4 : Nat) (Option.some Jvm.ClassFile.FieldType.int), Jvm.Cond.code ({ cls := "java/lang/StringLatin1", name := "canEncode", desc := "(I)Z" } : Jvm.MethodName) jdk_43_method_4_code (1 : Nat) (Option.some Jvm.ClassFile.FieldType.boolean), Jvm.Cond.code ({ cls := "java/lang/Math", name := "max", desc := "(II)I" } : Jvm.MethodName) jdk_29_method_65_code (2 : Nat) (Option.some Jvm.ClassFile.FieldType.int), Jvm.Cond.code ({ cls := "java/lang/Math", name := "min", desc := "(II)I" } : Jvm.MethodName) jdk_29_method_69_code (2 : Nat) (Option.some Jvm.ClassFile.FieldType.int), Jvm.Cond.code ({ cls := "java/lang/StringLatin1", name := "indexOfChar", desc := "([BIII)I" } : Jvm.MethodName) jdk_43_method_23_code (6 : Nat) (Option.some Jvm.ClassFile.FieldType.int), Jvm.Cond.code ({ cls := "java/lang/String", name := "substring", desc := "(II)Ljava/lang/String;" } : Jvm.MethodName) jdk_42_method_92_code (5 : Nat) (Option.some (Jvm.ClassFile.FieldType.object "java/lang/String")), Jvm.Cond.code ({ cls := "java/lang/String", name := "checkBoundsBeginEnd", desc := "(III)V" } : Jvm.MethodName) jdk_42_method_158_code (3 : Nat) (Option.none : Option Jvm.ClassFile.FieldType), Jvm.Cond.code ({ cls := "jdk/internal/util/Preconditions", name := "checkFromToIndex", desc := "(IIILjava/util/function/BiFunction;)I" } : Jvm.MethodName) jdk_41_method_12_code (4 : Nat) (Option.some Jvm.ClassFile.FieldType.int), Jvm.Cond.code ({ cls := "java/lang/StringLatin1", name := "newString", desc := "([BII)Ljava/lang/String;" } : Jvm.MethodName) jdk_43_method_47_code (3 : Nat) (Option.some (Jvm.ClassFile.FieldType.object "java/lang/String")), Jvm.Cond.code ({ cls := "java/util/Arrays", name := "copyOfRange", desc := "([BII)[B" } : Jvm.MethodName) jdk_65_method_132_code (3 : Nat) (Option.some (Jvm.ClassFile.FieldType.array Jvm.ClassFile.FieldType.byte)), Jvm.Cond.code ({ cls := "java/util/Arrays", name := "copyOfRangeByte", desc := "([BII)[B" } : Jvm.MethodName) jdk_65_method_133_code (5 : Nat) (Option.some (Jvm.ClassFile.FieldType.array Jvm.ClassFile.FieldType.byte)), Jvm.Cond.code ({ cls := "java/util/Arrays", name := "checkLength", desc := "(II)V" } : Jvm.MethodName) jdk_65_method_131_code (2 : Nat) (Option.none : Option Jvm.ClassFile.FieldType), Jvm.Cond.code ({ cls := "java/lang/String", name := "trim", desc := "()Ljava/lang/String;" } : Jvm.MethodName) jdk_42_method_113_code (2 : Nat) (Option.some (Jvm.ClassFile.FieldType.object "java/lang/String")), Jvm.Cond.code ({ cls := "java/lang/StringLatin1", name := "trim", desc := "([B)Ljava/lang/String;" } : Jvm.MethodName) jdk_43_method_36_code (3 : Nat) (Option.some (Jvm.ClassFile.FieldType.object "java/lang/String")), Jvm.Cond.code ({ cls := "java/lang/String", name := "charAt", desc := "(I)C" } : Jvm.MethodName) jdk_42_method_56_code (2 : Nat) (Option.some Jvm.ClassFile.FieldType.char), Jvm.Cond.code ({ cls := "java/lang/StringLatin1", name := "charAt", desc := "([BI)C" } : Jvm.MethodName) jdk_43_method_2_code (2 : Nat) (Option.some Jvm.ClassFile.FieldType.char), Jvm.Cond.code ({ cls := "java/lang/String", name := "checkIndex", desc := "(II)V" } : Jvm.MethodName) jdk_42_method_155_code (2 : Nat) (Option.none : Option Jvm.ClassFile.FieldType), Jvm.Cond.code ({ cls := "jdk/internal/util/Preconditions", name := "checkIndex", desc := "(IILjava/util/function/BiFunction;)I" } : Jvm.MethodName) jdk_41_method_11_code (3 : Nat) (Option.some Jvm.ClassFile.FieldType.int), Jvm.Cond.code ({ cls := "java/lang/String", name := "equalsIgnoreCase", desc := "(Ljava/lang/String;)Z" } : Jvm.MethodName) jdk_42_method_70_code (2 : Nat) (Option.some Jvm.ClassFile.FieldType.boolean), Jvm.Cond.code ({ cls := "java/lang/String", name := "regionMatches", desc := "(ZILjava/lang/String;II)Z" } : Jvm.MethodName) jdk_42_method_74_code (9 : Nat) (Option.some Jvm.ClassFile.FieldType.boolean), Jvm.Cond.code ({ cls := "java/lang/StringLatin1", name := "regionMatchesCI", desc := "([BI[BII)Z" } : Jvm.MethodName) jdk_43_method_30_code (8 : Nat) (Option.some Jvm.ClassFile.FieldType.boolean), Jvm.Cond.code ({ cls := "java/lang/CharacterDataLatin1", name := "equalsIgnoreCase", desc := "(BB)Z" } : Jvm.MethodName) jdk_116_method_22_code (3 : Nat) (Option.some Jvm.ClassFile.FieldType.boolean), Jvm.Cond.code ({ cls := "com/example/same_answer/sameanswer/MediaTypeParameterPinLaw", name := "same", desc := "(Ljava/lang/String;[CII)Z" } : Jvm.MethodName) method_10_code (5 : Nat) (Option.some Jvm.ClassFile.FieldType.boolean), Jvm.Cond.code ({ cls := "com/example/same_answer/sameanswer/MediaTypeParameterPinLaw", name := "trimmed", desc := "(Ljava/lang/String;[CI)Z" } : Jvm.MethodName) method_9_code (5 : Nat) (Option.some Jvm.ClassFile.FieldType.boolean), Jvm.Cond.code ({ cls := "com/example/same_answer/sameanswer/MediaTypeParameterPinLaw", name := "lo4", desc := "([CI)I" } : Jvm.MethodName) method_7_code (2 : Nat) (Option.some Jvm.ClassFile.FieldType.int), Jvm.Cond.code ({ cls := "com/example/same_answer/sameanswer/MediaTypeParameterPinLaw", name := "hi4", desc := "([CI)I" } : Jvm.MethodName) method_8_code (2 : Nat) (Option.some Jvm.ClassFile.FieldType.int), Jvm.Cond.code ({ cls := "java/lang/String", name := "isEmpty", desc := "()Z" } : Jvm.MethodName) jdk_42_method_55_code (1 : Nat) (Option.some Jvm.ClassFile.FieldType.boolean)]
set_option maxRecDepth 65536 in
theorem codes_eq : words1.filter isCode = codes1 := rfl
theorem w_codes : ∀ c ∈ words1.filter isCode, c.before args0 about1 = true := by
  rw [codes_eq]
  intro c hc
  simp only [codes1, List.mem_cons, List.not_mem_nil, or_false] at hc
  rcases hc with rfl | rfl | rfl | rfl | rfl | rfl | rfl | rfl | rfl | rfl | rfl | rfl | rfl | rfl | rfl | rfl | rfl | rfl | rfl | rfl | rfl | rfl | rfl | rfl | rfl | rfl | rfl | rfl | rfl | rfl | rfl | rfl | rfl | rfl | rfl | rfl | rfl | rfl | rfl | rfl | rfl | rfl | rfl | rfl | rfl | rfl | rfl | rfl
  · exact w_c0
  · exact w_c1
  · exact w_c2
  · exact w_c3
  · exact w_c4
  · exact w_c5
  · exact w_c6
  · exact w_c7
  · exact w_c8
  · exact w_c9
  · exact w_c10
  · exact w_c11
  · exact w_c12
  · exact w_c13
  · exact w_c14
  · exact w_c15
  · exact w_c16
  · exact w_c17
  · exact w_c18
  · exact w_c19
  · exact w_c20
  · exact w_c21
  · exact w_c22
  · exact w_c23
  · exact w_c24
  · exact w_c25
  · exact w_c26
  · exact w_c27
  · exact w_c28
  · exact w_c29
  · exact w_c30
  · exact w_c31
  · exact w_c32
  · exact w_c33
  · exact w_c34
  · exact w_c35
  · exact w_c36
  · exact w_c37
  · exact w_c38
  · exact w_c39
  · exact w_c40
  · exact w_c41
  · exact w_c42
  · exact w_c43
  · exact w_c44
  · exact w_c45
  · exact w_c46
  · exact w_c47
set_option maxRecDepth 65536 in
theorem w_t1 : (words1.take 24).all (fun c => isCode c || c.before args0 about1) = true := by decide +kernel
set_option maxRecDepth 65536 in
theorem w_t2 : ((words1.drop 24).take 24).all (fun c => isCode c || c.before args0 about1) = true := by decide +kernel
set_option maxRecDepth 65536 in
theorem w_t3 : (((words1.drop 24).drop 24).take 24).all (fun c => isCode c || c.before args0 about1) = true := by decide +kernel
set_option maxRecDepth 65536 in
theorem w_t4 : ((((words1.drop 24).drop 24).drop 24).take 24).all (fun c => isCode c || c.before args0 about1) = true := by decide +kernel
set_option maxRecDepth 65536 in
theorem w_t5 : (((((words1.drop 24).drop 24).drop 24).drop 24).take 24).all (fun c => isCode c || c.before args0 about1) = true := by decide +kernel
set_option maxRecDepth 65536 in
theorem w_t6 : ((((((words1.drop 24).drop 24).drop 24).drop 24).drop 24).take 24).all (fun c => isCode c || c.before args0 about1) = true := by decide +kernel
set_option maxRecDepth 65536 in
theorem w_t7 : (((((((words1.drop 24).drop 24).drop 24).drop 24).drop 24).drop 24).take 24).all (fun c => isCode c || c.before args0 about1) = true := by decide +kernel
set_option maxRecDepth 65536 in
theorem w_t8 : ((((((((words1.drop 24).drop 24).drop 24).drop 24).drop 24).drop 24).drop 24).take 24).all (fun c => isCode c || c.before args0 about1) = true := by decide +kernel
set_option maxRecDepth 65536 in
theorem w_t9 : ((((((((words1.drop 24).drop 24).drop 24).drop 24).drop 24).drop 24).drop 24).drop 24).all (fun c => isCode c || c.before args0 about1) = true := by decide +kernel
theorem w_tables : (allAtoms (Jvm.Cond.code x code maxLocals ret :: tables_1)).before args0 about1 = true := by
  rw [allAtoms_all]
  show words1.all (fun c => c.before args0 about1) = true
  refine all_split ?_ w_codes
  rw [← List.take_append_drop 24 words1, List.all_append, w_t1, ← List.take_append_drop 24 (words1.drop 24), List.all_append, w_t2, ← List.take_append_drop 24 ((words1.drop 24).drop 24), List.all_append, w_t3, ← List.take_append_drop 24 (((words1.drop 24).drop 24).drop 24), List.all_append, w_t4, ← List.take_append_drop 24 ((((words1.drop 24).drop 24).drop 24).drop 24), List.all_append, w_t5, ← List.take_append_drop 24 (((((words1.drop 24).drop 24).drop 24).drop 24).drop 24), List.all_append, w_t6, ← List.take_append_drop 24 ((((((words1.drop 24).drop 24).drop 24).drop 24).drop 24).drop 24), List.all_append, w_t7, ← List.take_append_drop 24 (((((((words1.drop 24).drop 24).drop 24).drop 24).drop 24).drop 24).drop 24), List.all_append, w_t8, w_t9]
  rfl
set_option maxRecDepth 65536 in
theorem w_rest : rest_1_c.before args0 about1 = true := by decide +kernel
set_option maxRecDepth 65536 in
theorem w_case : (Jvm.Cond.and given_1 narrow_1).before args0 about1 = true := by decide +kernel
set_option maxRecDepth 65536 in
theorem w_consts : constsHeld consts_1 about1 := Jvm.Lit.constsHeldB_iff.mp (by decide +kernel)
theorem w_applies : (headSpec (Jvm.Cond.code x code maxLocals ret :: tables_1) room_1).applies x e0.platform about1 = true :=
  (Spec.applies_iff w_frames).mpr ⟨w_running, w_runnable, w_alone, w_named, w_hears, w_ripe, w_room, w_tables⟩
theorem atStart : AtStart classFile x code maxLocals ret World_1 tables_1 room_1 Calls_1 rest_1 Pre_1 launch0 p0 e0 about1 theMethod args0 below0 :=
  ⟨lists_1, trivial, launch0.admits_env _ _ _, launch0.least_env, fairChoices_fair.cas, fairChoices_fair.clock, w_frames, w_args, w_heap, w_applies, ⟨w_consts, trivial⟩, w_rest, w_case⟩
end start1
theorem witness_1 : WitnessClaimed_1 := ⟨start1.p0, start1.e0, start1.about1, start1.theMethod, start1.args0, start1.below0, start1.atStart⟩
end Jvm.Pilot.@@N@@
