import JvmDerived
import JvmDerived.Pilot.@@N@@Statement
import JvmDerived.Pilot.@@N@@Code
set_option linter.unusedVariables false
set_option linter.unusedSimpArgs false
/- laws to paste: Road.eqW, Road.codOf (cut by pick.py; bodies as the Statement names them) -/
namespace Jvm.Pilot.@@N@@
namespace StrChars
open Jvm Sem ClassFile Op Lib Jvm.Stand Jvm.Free.XT Jvm.Free.ALB Jvm.Free.JM Jvm.Free
open Jvm.Lib.Cold (StaticIs)
/-- a char array whose places are chars -/
def Ch (a : Addr) (A : Cell) (U : State) : Prop := Arr .char a A U ∧ Typed .char A
theorem Ch.mv {a : Addr} {A : Cell} {U U' : State} (h : Ch a A U) (hal : U.vm.Alike U'.vm) (hh : U'.heap = U.heap) : Ch a A U' := ⟨h.1.mv hal hh, h.2⟩
theorem Ch.keep {a : Addr} {A : Cell} {U U' : State} (h : Ch a A U) (hal : U.vm.Alike U'.vm) (hk : U'.heap[a]? = some A) : Ch a A U' := ⟨h.1.keep hal hk, h.2⟩
/-- what place i of a char[]'s cell holds -/
def cv (A : Cell) (i : Nat) : Int32 := match A.slots[i]? with | some (.int x) => x | _ => 0
theorem Ch.get {a : Addr} {A : Cell} {U : State} (h : Ch a A U) {i : Nat} (hi : i < A.slots.size) : A.slots[i]? = some (.int (cv A i)) := by
  have e := Array.getElem?_eq_getElem hi
  have f := h.2 i _ e
  unfold cv; rw [e]
  generalize A.slots[i] = v at f
  cases v <;> simp [fits] at f ⊢
/-- the byte that i2b leaves of a char -/
def lo8 (x : Int32) : Int32 := x.toInt8.toInt32
theorem fits_lo8 (y : Int32) : fits .byte (.int (lo8 y)) = true := by
  have h1 := y.toInt8.le_toInt
  have h2 := y.toInt8.toInt_lt
  simp only [lo8, fits, Bool.and_eq_true, decide_eq_true_eq, Int32.le_iff_toInt_le, Int8.toInt_toInt32, show (-128 : Int32).toInt = -128 from by decide, show (127 : Int32).toInt = 127 from by decide]
  omega
/-- A' is A but that each place j of lo .. hi - 1 holds f j -/
def Laid (A A' : Cell) (lo hi : Nat) (f : Nat → Value) : Prop := A'.cls = A.cls ∧ A'.vm = A.vm ∧ A'.slots.size = A.slots.size ∧ ∀ i, A'.slots[i]? = if lo ≤ i ∧ i < hi then some (f i) else A.slots[i]?
theorem Laid.zero (A : Cell) (lo : Nat) (f : Nat → Value) : Laid A A lo (lo + 0) f := ⟨rfl, rfl, rfl, fun i => by rw [if_neg (by omega)]⟩
theorem Laid.step {A Ak : Cell} {lo k : Nat} {f : Nat → Value} {v : Value} (h : Laid A Ak lo k f) (hlo : lo ≤ k) (hk : k < Ak.slots.size) (hv : v = f k) : Laid A (Ak.setSlot k v) lo (k + 1) f := by
  refine ⟨h.1, h.2.1, by simpa [Cell.setSlot] using h.2.2.1, fun i => ?_⟩
  by_cases e : k = i
  · subst e; rw [Cell.slots_setSlot_self v hk, if_pos (by omega), hv]
  · rw [Cell.slots_setSlot_ne v e, h.2.2.2 i]
    by_cases q : lo ≤ i ∧ i < k
    · rw [if_pos q, if_pos (by omega)]
    · rw [if_neg q, if_neg (by omega)]
def U16 : String := "java/lang/StringUTF16"
namespace Cmp5
def yN : MethodName := ⟨"java/lang/StringUTF16", "compress", "([CI[BII)I"⟩
abbrev yB : ByteArray := jdk_52_method_21_code
theorem d0 : decode yB 0 = .ok (.iconst 0, 1) := by decide +kernel
theorem d1 : decode yB 1 = .ok (.istore 5, 2) := by decide +kernel
theorem d3 : decode yB 3 = .ok (.iload 5, 2) := by decide +kernel
theorem d5 : decode yB 5 = .ok (.iload 4, 2) := by decide +kernel
theorem d7 : decode yB 7 = .ok (.if_icmp (.ge) 37, 3) := by decide +kernel
theorem d10 : decode yB 10 = .ok (.aload_n 0, 1) := by decide +kernel
theorem d11 : decode yB 11 = .ok (.iload_n 1, 1) := by decide +kernel
theorem d12 : decode yB 12 = .ok (.caload, 1) := by decide +kernel
theorem d13 : decode yB 13 = .ok (.istore 6, 2) := by decide +kernel
theorem d15 : decode yB 15 = .ok (.iload 6, 2) := by decide +kernel
theorem d17 : decode yB 17 = .ok (.sipush 255, 3) := by decide +kernel
theorem d20 : decode yB 20 = .ok (.if_icmp (.le) 6, 3) := by decide +kernel
theorem d26 : decode yB 26 = .ok (.aload_n 2, 1) := by decide +kernel
theorem d27 : decode yB 27 = .ok (.iload_n 3, 1) := by decide +kernel
theorem d28 : decode yB 28 = .ok (.iload 6, 2) := by decide +kernel
theorem d30 : decode yB 30 = .ok (.i2b, 1) := by decide +kernel
theorem d31 : decode yB 31 = .ok (.bastore, 1) := by decide +kernel
theorem d32 : decode yB 32 = .ok (.iinc 1 1, 3) := by decide +kernel
theorem d35 : decode yB 35 = .ok (.iinc 3 1, 3) := by decide +kernel
theorem d38 : decode yB 38 = .ok (.iinc 5 1, 3) := by decide +kernel
theorem d41 : decode yB 41 = .ok (.goto (-38), 3) := by decide +kernel
theorem d44 : decode yB 44 = .ok (.iload 4, 2) := by decide +kernel
theorem d46 : decode yB 46 = .ok (.ireturn, 1) := by decide +kernel
def site : List Cond := []
def tab : Cond := tabOf yN yB 7 (some .int) site
def P (b : Addr) (A : Cell) (d : Addr) (B : Cell) (o q len : Nat) (args : Array Value) (s : State) : Prop := args = #[.ref b, .int (Int32.ofNat o), .ref d, .int (Int32.ofNat q), .int (Int32.ofNat len)] ∧ Ch b A s ∧ Arr .byte d B s ∧ b ≠ d ∧ o + len ≤ A.slots.size ∧ q + len ≤ B.slots.size ∧ ∀ i, i < len → ¬ 255 < cv A (o + i)
def E (b : Addr) (A : Cell) (d : Addr) (B : Cell) (o q len : Nat) (r : Option Value) (s u : State) : Prop := r = some (.int (Int32.ofNat len)) ∧ ∃ B', Put d B' s u ∧ Laid B B' q (q + len) (fun j => Value.int (lo8 (cv A (o + (j - q)))))
/-- no char of the range above 255: len; the places written hold each char's low byte -/
theorem law (l : Launch) (b : Addr) (A : Cell) (d : Addr) (B : Cell) (o q len : Nat) : Law l yN 5 5 0 0 yB 7 (some .int) site (P b A d B o q len) (E b A d B o q len) (copyLocs d q len) 0 0 := by
  refine Law.of_walk (plainFor_of_name (by decide +kernel)) (by decide +kernel) (by decide +kernel) (by decide) (fun _ _ h => by rw [h.1]; rfl) (fun _ U U' hal hh h => ⟨h.1, h.2.1.mv hal hh, h.2.2.1.mv hal hh, h.2.2.2⟩) (fun r U U' V V' h1 hal h2 h => ⟨h.1, h.2.elim fun B' q => ⟨B', q.1.mv h1 h2, q.2⟩⟩) ?_
  intro p e s m args below meth c s₁ X0 hexec hbytes hml hret hlk hnm hown hh0 W hP
  obtain ⟨rfl, hA, hB, hne, l1, l2, hp⟩ := hP
  have c1 : Steps p.tables e below (s₁.setTop (entryFrame m #[.ref b, .int (Int32.ofNat o), .ref d, .int (Int32.ofNat q), .int (Int32.ofNat len)] 7)) (s₁.setTop (mkF m 0 #[.val (.ref b), .val (.int (Int32.ofNat o)), .val (.ref d), .val (.int (Int32.ofNat q)), .val (.int (Int32.ofNat len)), .unset, .unset] [])) := entry rfl
  have hA0 := hA.1.mv X0.warmed.alike hh0
  have hB0 := hB.mv X0.warmed.alike hh0
  have a31 := hA.1.2.2.2
  have c2 : Steps p.tables e below (s₁.setTop (entryFrame m #[.ref b, .int (Int32.ofNat o), .ref d, .int (Int32.ofNat q), .int (Int32.ofNat len)] 7)) (s₁.setTop (mkF m 3 #[.val (.ref b), .val (.int (Int32.ofNat o)), .val (.ref d), .val (.int (Int32.ofNat q)), .val (.int (Int32.ofNat len)), .val (.int 0), .unset] [])) := c1.trans (by
    refine iconstV X0.here hexec rfl 0 (hb hbytes d0) (by decide) ?_
    refine XS.istore X0.here hexec rfl (hb hbytes d1) rfl rfl ?_
    exact Steps.refl _)
  have loop : ∀ (r i : Nat), i + r = len → ∀ (z : Slot), (z = .unset ∨ ∃ w, z = .val w ∧ w.category = 1) → ∀ (Tl : State) (Bk : Cell), Stand p l e { frames := 0, locals := 0, cells := 0, slots := 0 } s m #[.ref b, .int (Int32.ofNat o), .ref d, .int (Int32.ofNat q), .int (Int32.ofNat len)] below meth c Tl ([] ++ copyLocs d q i) 0 0 → Put d Bk s₁ Tl → Laid B Bk q (q + i) (fun j => Value.int (lo8 (cv A (o + (j - q))))) →
      Steps p.tables e below (s₁.setTop (entryFrame m #[.ref b, .int (Int32.ofNat o), .ref d, .int (Int32.ofNat q), .int (Int32.ofNat len)] 7)) (Tl.setTop (mkF m 3 #[.val (.ref b), .val (.int (Int32.ofNat (o + i))), .val (.ref d), .val (.int (Int32.ofNat (q + i))), .val (.int (Int32.ofNat len)), .val (.int (Int32.ofNat i)), z] [])) → ∃ (T' : State) (B' : Cell) (z' : Slot), Stand p l e { frames := 0, locals := 0, cells := 0, slots := 0 } s m #[.ref b, .int (Int32.ofNat o), .ref d, .int (Int32.ofNat q), .int (Int32.ofNat len)] below meth c T' ([] ++ copyLocs d q len) 0 0 ∧ Put d B' s₁ T' ∧ Laid B B' q (q + len) (fun j => Value.int (lo8 (cv A (o + (j - q))))) ∧
      Steps p.tables e below (s₁.setTop (entryFrame m #[.ref b, .int (Int32.ofNat o), .ref d, .int (Int32.ofNat q), .int (Int32.ofNat len)] 7)) (T'.setTop (mkF m 3 #[.val (.ref b), .val (.int (Int32.ofNat (o + len))), .val (.ref d), .val (.int (Int32.ofNat (q + len))), .val (.int (Int32.ofNat len)), .val (.int (Int32.ofNat len)), z'] [])) := by
    intro r
    induction r with
    | zero =>
      intro i hi z hz Tl Bk Xl pl fl cl
      have hil : i = len := by omega
      rw [hil] at Xl fl cl
      exact ⟨Tl, Bk, z, Xl, pl, fl, cl⟩
    | succ r ih =>
      intro i hi z hz Tl Bk Xl pl fl cl
      have all := X0.warmed.alike.symm.trans Xl.warmed.alike
      have hAl := hA0.keep all (pl.other hne hA0.1)
      have hBk := hB0.like all pl.1 fl.1 fl.2.1 fl.2.2.1
      have hlt : q + i < Bk.slots.size := by rw [fl.2.2.1]; omega
      have c3 : Steps p.tables e below (s₁.setTop (entryFrame m #[.ref b, .int (Int32.ofNat o), .ref d, .int (Int32.ofNat q), .int (Int32.ofNat len)] 7)) (Tl.setTop (mkF m 12 #[.val (.ref b), .val (.int (Int32.ofNat (o + i))), .val (.ref d), .val (.int (Int32.ofNat (q + i))), .val (.int (Int32.ofNat len)), .val (.int (Int32.ofNat i)), z] [.int (Int32.ofNat (o + i)), .ref b])) := cl.trans (by
        refine XS.iload Xl.here hexec rfl (hb hbytes d3) rfl ?_
        refine XS.iload Xl.here hexec rfl (hb hbytes d5) rfl ?_
        refine XS.icmpNo Xl.here hexec rfl (hb hbytes d7) rfl (ii_ge_f (lt32 (by omega) (by omega))) ?_
        refine XS.aloadN Xl.here hexec rfl (hb hbytes d10) rfl rfl ?_
        refine XS.iloadN Xl.here hexec rfl (hb hbytes d11) rfl ?_
        exact Steps.refl _)
      have c4 : Steps p.tables e below (s₁.setTop (entryFrame m #[.ref b, .int (Int32.ofNat o), .ref d, .int (Int32.ofNat q), .int (Int32.ofNat len)] 7)) (Tl.setTop (mkF m 13 #[.val (.ref b), .val (.int (Int32.ofNat (o + i))), .val (.ref d), .val (.int (Int32.ofNat (q + i))), .val (.int (Int32.ofNat len)), .val (.int (Int32.ofNat i)), z] [.int (cv A (o + i))])) := c3.trans (by
        refine Xl.aget hexec hAl rfl (hA.get (i := o + i) (by omega)) rfl rfl (hb hbytes d12) ?_
        exact Steps.refl _)
      have c5 : Steps p.tables e below (s₁.setTop (entryFrame m #[.ref b, .int (Int32.ofNat o), .ref d, .int (Int32.ofNat q), .int (Int32.ofNat len)] 7)) (Tl.setTop (mkF m 15 #[.val (.ref b), .val (.int (Int32.ofNat (o + i))), .val (.ref d), .val (.int (Int32.ofNat (q + i))), .val (.int (Int32.ofNat len)), .val (.int (Int32.ofNat i)), .val (.int (cv A (o + i)))] [])) := c4.trans (by
        refine XS.istoreS Xl.here hexec rfl (hb hbytes d13) rfl rfl hz ?_
        exact Steps.refl _)
      have c6 : Steps p.tables e below (s₁.setTop (entryFrame m #[.ref b, .int (Int32.ofNat o), .ref d, .int (Int32.ofNat q), .int (Int32.ofNat len)] 7)) (Tl.setTop (mkF m 31 #[.val (.ref b), .val (.int (Int32.ofNat (o + i))), .val (.ref d), .val (.int (Int32.ofNat (q + i))), .val (.int (Int32.ofNat len)), .val (.int (Int32.ofNat i)), .val (.int (cv A (o + i)))] [.int (lo8 (cv A (o + i))), .int (Int32.ofNat (q + i)), .ref d])) := c5.trans (by
        refine XS.iload Xl.here hexec rfl (hb hbytes d15) rfl ?_
        refine sipushV Xl.here hexec rfl 255 (hb hbytes d17) (by decide) ?_
        refine XS.icmpYes Xl.here hexec rfl (pc0 := 20) rfl (hb hbytes d20) rfl (ii_le_t (hp i (by omega))) (by decide) rfl ?_
        refine XS.aloadN Xl.here hexec rfl (hb hbytes d26) rfl rfl ?_
        refine XS.iloadN Xl.here hexec rfl (hb hbytes d27) rfl ?_
        refine XS.iload Xl.here hexec rfl (hb hbytes d28) rfl ?_
        refine i2b Xl.here hexec rfl (hb hbytes d30) rfl ?_
        exact Steps.refl _)
      obtain ⟨T7, X7, p7, st7⟩ := Xl.aput hexec hBk rfl hlt rfl (fits_lo8 (cv A (o + i))) (g := (mkF m 31 #[.val (.ref b), .val (.int (Int32.ofNat (o + i))), .val (.ref d), .val (.int (Int32.ofNat (q + i))), .val (.int (Int32.ofNat len)), .val (.int (Int32.ofNat i)), .val (.int (cv A (o + i)))] [.int (lo8 (cv A (o + i))), .int (Int32.ofNat (q + i)), .ref d])) rfl (rest := []) rfl (hb hbytes d31)
      have c8 : Steps p.tables e below (s₁.setTop (entryFrame m #[.ref b, .int (Int32.ofNat o), .ref d, .int (Int32.ofNat q), .int (Int32.ofNat len)] 7)) (T7.setTop (mkF m 32 #[.val (.ref b), .val (.int (Int32.ofNat (o + i))), .val (.ref d), .val (.int (Int32.ofNat (q + i))), .val (.int (Int32.ofNat len)), .val (.int (Int32.ofNat i)), .val (.int (cv A (o + i)))] [])) := c6.trans (st7 _ (Steps.refl _))
      have c9 : Steps p.tables e below (s₁.setTop (entryFrame m #[.ref b, .int (Int32.ofNat o), .ref d, .int (Int32.ofNat q), .int (Int32.ofNat len)] 7)) (T7.setTop (mkF m 3 #[.val (.ref b), .val (.int (Int32.ofNat (o + i) + 1)), .val (.ref d), .val (.int (Int32.ofNat (q + i) + 1)), .val (.int (Int32.ofNat len)), .val (.int (Int32.ofNat i + 1)), .val (.int (cv A (o + i)))] [])) := c8.trans (by
        refine iincV X7.here hexec rfl 1 (hb hbytes d32) (by decide) rfl rfl ?_
        refine iincV X7.here hexec rfl 1 (hb hbytes d35) (by decide) rfl rfl ?_
        refine iincV X7.here hexec rfl 1 (hb hbytes d38) (by decide) rfl rfl ?_
        refine XS.goto X7.here hexec rfl (pc0 := 41) rfl (hb hbytes d41) (by decide) rfl ?_
        exact Steps.refl _)
      have c10 : Steps p.tables e below (s₁.setTop (entryFrame m #[.ref b, .int (Int32.ofNat o), .ref d, .int (Int32.ofNat q), .int (Int32.ofNat len)] 7)) (T7.setTop (mkF m 3 #[.val (.ref b), .val (.int (Int32.ofNat (o + (i + 1)))), .val (.ref d), .val (.int (Int32.ofNat (q + (i + 1)))), .val (.int (Int32.ofNat len)), .val (.int (Int32.ofNat (i + 1))), .val (.int (cv A (o + i)))] [])) := by
        have := c9
        rw [succ32, succ32, succ32] at this
        exact this
      exact ih (i + 1) (by omega) _ (Or.inr ⟨_, rfl, rfl⟩) T7 _ (by rw [copyLocs_step, ← List.append_assoc]; exact X7) (pl.trans p7) (fl.step (by omega) hlt (by simp)) c10
  obtain ⟨T9, B9, z9, X9, p9, f9, g9⟩ := loop len 0 (by omega) .unset (Or.inl rfl) s₁ B (by simpa [copyLocs] using X0) ⟨hB0.1, fun _ _ => rfl, rfl⟩ (Laid.zero _ _ _) c2
  have c11 : Steps p.tables e below (s₁.setTop (entryFrame m #[.ref b, .int (Int32.ofNat o), .ref d, .int (Int32.ofNat q), .int (Int32.ofNat len)] 7)) (T9.setTop (mkF m 46 #[.val (.ref b), .val (.int (Int32.ofNat (o + len))), .val (.ref d), .val (.int (Int32.ofNat (q + len))), .val (.int (Int32.ofNat len)), .val (.int (Int32.ofNat len)), z9] [.int (Int32.ofNat len)])) := g9.trans (by
    refine XS.iload X9.here hexec rfl (hb hbytes d3) rfl ?_
    refine XS.iload X9.here hexec rfl (hb hbytes d5) rfl ?_
    refine XS.icmpYes X9.here hexec rfl (pc0 := 7) rfl (hb hbytes d7) rfl (ii_ge_t (nlt32 (by omega) (Nat.le_refl _))) (by decide) rfl ?_
    refine XS.iload X9.here hexec rfl (hb hbytes d44) rfl ?_
    exact Steps.refl _)
  exact ⟨T9, some (.int (Int32.ofNat len)), _, _, _, X9, by simp, rfl, rfl, (fun h => by cases h), ⟨rfl, B9, p9.from hh0, f9⟩, fun fs hl => c11.trans (X9.ireturnOut hexec hret rfl (Or.inl rfl) (hb hbytes d46) hl)⟩
end Cmp5
namespace Cmp3
def yN : MethodName := ⟨"java/lang/StringUTF16", "compress", "([CII)[B"⟩
abbrev yB : ByteArray := jdk_52_method_16_code
theorem d0 : decode yB 0 = .ok (.iload_n 2, 1) := by decide +kernel
theorem d1 : decode yB 1 = .ok (.newarray .byte, 2) := by decide +kernel
theorem d3 : decode yB 3 = .ok (.astore_n 3, 1) := by decide +kernel
theorem d4 : decode yB 4 = .ok (.aload_n 0, 1) := by decide +kernel
theorem d5 : decode yB 5 = .ok (.iload_n 1, 1) := by decide +kernel
theorem d6 : decode yB 6 = .ok (.aload_n 3, 1) := by decide +kernel
theorem d7 : decode yB 7 = .ok (.iconst 0, 1) := by decide +kernel
theorem d8 : decode yB 8 = .ok (.iload_n 2, 1) := by decide +kernel
theorem d9 : decode yB 9 = .ok (.invokestatic 115, 3) := by decide +kernel
theorem d12 : decode yB 12 = .ok (.istore 4, 2) := by decide +kernel
theorem d14 : decode yB 14 = .ok (.iload 4, 2) := by decide +kernel
theorem d16 : decode yB 16 = .ok (.iload_n 2, 1) := by decide +kernel
theorem d17 : decode yB 17 = .ok (.if_icmp (.eq) 40, 3) := by decide +kernel
theorem d57 : decode yB 57 = .ok (.aload_n 3, 1) := by decide +kernel
theorem d58 : decode yB 58 = .ok (.areturn, 1) := by decide +kernel
def site : List Cond := [.arrayClass .byte, Cmp5.tab] ++ staticW U16 115 Cmp5.yN
def tab : Cond := tabOf yN yB 6 (some (.array .byte)) site
def P (b : Addr) (A : Cell) (o len : Nat) (args : Array Value) (s : State) : Prop := args = #[.ref b, .int (Int32.ofNat o), .int (Int32.ofNat len)] ∧ Ch b A s ∧ o + len ≤ A.slots.size ∧ len ≤ 536870912 ∧ ∀ i, i < len → ¬ 255 < cv A (o + i)
def E (b : Addr) (A : Cell) (o len : Nat) (r : Option Value) (s u : State) : Prop := NewArr .byte "[B" len (fun j => .int (lo8 (cv A (o + j)))) r s u ∧ u.heap.size = s.heap.size + 1
/-- no char of the range above 255: a new byte[] of their low bytes -/
theorem law (l : Launch) (b : Addr) (A : Cell) (o len : Nat) : Law l yN 3 3 1 18 yB 6 (some (.array .byte)) site (P b A o len) (E b A o len) [] 1 len := by
  refine Law.of_walk (plainFor_of_name (by decide +kernel)) (by decide +kernel) (by decide +kernel) (by decide) (fun _ _ h => by rw [h.1]; rfl) (fun _ U U' hal hh h => ⟨h.1, h.2.1.mv hal hh, h.2.2⟩) (fun r U U' V V' h1 hal h2 h => ⟨NewArr.mv r U U' V V' h1 hal h2 h.1, by rw [h1, h2]; exact h.2⟩) ?_
  intro p e s m args below meth c s₁ X0 hexec hbytes hml hret hlk hnm hown hh0 W hP
  obtain ⟨rfl, hA, l1, l2, hp⟩ := hP
  have a31 := hA.1.2.2.2
  have c1 : Steps p.tables e below (s₁.setTop (entryFrame m #[.ref b, .int (Int32.ofNat o), .int (Int32.ofNat len)] 6)) (s₁.setTop (mkF m 0 #[.val (.ref b), .val (.int (Int32.ofNat o)), .val (.int (Int32.ofNat len)), .unset, .unset, .unset] [])) := entry rfl
  have c2 : Steps p.tables e below (s₁.setTop (entryFrame m #[.ref b, .int (Int32.ofNat o), .int (Int32.ofNat len)] 6)) (s₁.setTop (mkF m 1 #[.val (.ref b), .val (.int (Int32.ofNat o)), .val (.int (Int32.ofNat len)), .unset, .unset, .unset] [.int (Int32.ofNat len)])) := c1.trans (by
    refine XS.iloadN X0.here hexec rfl (hb hbytes d0) rfl ?_
    exact Steps.refl _)
  obtain ⟨T3, B3, X3, ba3, bs3, bv3, bh3, bf3, st3⟩ := X0.anew hexec (atype := .byte) (wk W (.arrayClass .byte)) rfl (by show len * 1 ≤ _; omega) (by omega) (g := (mkF m 1 #[.val (.ref b), .val (.int (Int32.ofNat o)), .val (.int (Int32.ofNat len)), .unset, .unset, .unset] [.int (Int32.ofNat len)])) rfl (hb hbytes d1) (rest := []) rfl (Nat.le_refl _) (by show 0 + len ≤ len; omega)
  rw [hh0] at ba3 st3
  have kp3 : XT.Kept s T3 := (XT.Kept.of_eq hh0).push bh3
  have hA3 := hA.keep X3.warmed.alike (kp3 _ _ hA.1.1)
  have hne : b ≠ s.heap.size := hA.1.ne
  have c4 : Steps p.tables e below (s₁.setTop (entryFrame m #[.ref b, .int (Int32.ofNat o), .int (Int32.ofNat len)] 6)) (T3.setTop (mkF m 3 #[.val (.ref b), .val (.int (Int32.ofNat o)), .val (.int (Int32.ofNat len)), .unset, .unset, .unset] [.ref s.heap.size])) := c2.trans (st3 _ (Steps.refl _))
  have c5 : Steps p.tables e below (s₁.setTop (entryFrame m #[.ref b, .int (Int32.ofNat o), .int (Int32.ofNat len)] 6)) (T3.setTop (mkF m 9 #[.val (.ref b), .val (.int (Int32.ofNat o)), .val (.int (Int32.ofNat len)), .val (.ref s.heap.size), .unset, .unset] [.int (Int32.ofNat len), .int 0, .ref s.heap.size, .int (Int32.ofNat o), .ref b])) := c4.trans (by
    refine XS.astoreN X3.here hexec rfl (hb hbytes d3) rfl rfl rfl ?_
    refine XS.aloadN X3.here hexec rfl (hb hbytes d4) rfl rfl ?_
    refine XS.iloadN X3.here hexec rfl (hb hbytes d5) rfl ?_
    refine XS.aloadN X3.here hexec rfl (hb hbytes d6) rfl rfl ?_
    refine iconstV X3.here hexec rfl 0 (hb hbytes d7) (by decide) ?_
    refine XS.iloadN X3.here hexec rfl (hb hbytes d8) rfl ?_
    exact Steps.refl _)
  obtain ⟨v6, T6, X6, E6, g6⟩ := X3.callS hexec (Cmp5.law l b A s.heap.size B3 o 0 len) hown (wks W (staticW U16 115 Cmp5.yN)) (wk W Cmp5.tab) (W := 0) (Nat.le_of_ble_eq_true rfl) (Nat.le_of_ble_eq_true rfl) (Nat.le_refl _) (by show 0 + len + 0 ≤ len; omega) (g := (mkF m 9 #[.val (.ref b), .val (.int (Int32.ofNat o)), .val (.int (Int32.ofNat len)), .val (.ref s.heap.size), .unset, .unset] [.int (Int32.ofNat len), .int (Int32.ofNat 0), .ref s.heap.size, .int (Int32.ofNat o), .ref b])) rfl (by rw [hml]; rfl) c5 (argsL := [.ref b, .int (Int32.ofNat o), .ref s.heap.size, .int (Int32.ofNat 0), .int (Int32.ofNat len)]) (rest := []) rfl rfl (by show 2 * 0 + 0 ≤ _; decide) (hb hbytes d9) (⟨rfl, hA3, ba3, hne, l1, by rw [bs3]; simp, hp⟩)
  obtain ⟨rfl, B6, p6, f6⟩ := E6
  have c7 : Steps p.tables e below (s₁.setTop (entryFrame m #[.ref b, .int (Int32.ofNat o), .int (Int32.ofNat len)] 6)) (T6.setTop (mkF m 12 #[.val (.ref b), .val (.int (Int32.ofNat o)), .val (.int (Int32.ofNat len)), .val (.ref s.heap.size), .unset, .unset] [.int (Int32.ofNat len)])) := g6
  have c8 : Steps p.tables e below (s₁.setTop (entryFrame m #[.ref b, .int (Int32.ofNat o), .int (Int32.ofNat len)] 6)) (T6.setTop (mkF m 58 #[.val (.ref b), .val (.int (Int32.ofNat o)), .val (.int (Int32.ofNat len)), .val (.ref s.heap.size), .val (.int (Int32.ofNat len)), .unset] [.ref s.heap.size])) := c7.trans (by
    refine XS.istore X6.here hexec rfl (hb hbytes d12) rfl rfl ?_
    refine XS.iload X6.here hexec rfl (hb hbytes d14) rfl ?_
    refine XS.iloadN X6.here hexec rfl (hb hbytes d16) rfl ?_
    refine XS.icmpYes X6.here hexec rfl (pc0 := 17) rfl (hb hbytes d17) rfl (ii_eq_t rfl) (by decide) rfl ?_
    refine XS.aloadN X6.here hexec rfl (hb hbytes d57) rfl rfl ?_
    exact Steps.refl _)
  have X8 := X6.wide (L' := []) (cells' := 1) (slots' := len) (fun x hx hlt => by
    simp only [List.nil_append, copyLocs, List.mem_map, List.mem_range] at hx
    obtain ⟨i, -, rfl⟩ := hx
    exact absurd hlt (Nat.lt_irrefl _)) (Nat.le_refl _) (by omega)
  exact ⟨T6, some (.ref s.heap.size), _, _, _, X8, rfl, rfl, rfl, (fun h => by cases h), ⟨⟨rfl, B6, ba3.like (X3.warmed.alike.symm.trans X6.warmed.alike) p6.1 f6.1 f6.2.1 f6.2.2.1, f6.2.1.trans bv3, by rw [X6.warmed.alike.findClass, f6.1]; exact bf3, by rw [f6.2.2.1, bs3]; simp, fun j hj => by rw [f6.2.2.2 j, if_pos (by omega)]; rfl, kp3.put p6 (Nat.le_refl _)⟩, by rw [p6.2.2, bh3, hh0]; simp⟩, fun fs hl => c8.trans (X8.areturnOut hexec rfl hret rfl (hb hbytes d58) hl)⟩
end Cmp3
namespace CodL
def yN : MethodName := ⟨"java/lang/StringUTF16", "coderFromArrayLen", "([BI)B"⟩
abbrev yB : ByteArray := jdk_52_method_15_code
theorem d0 : decode yB 0 = .ok (.iload_n 1, 1) := by decide +kernel
theorem d1 : decode yB 1 = .ok (.aload_n 0, 1) := by decide +kernel
theorem d2 : decode yB 2 = .ok (.arraylength, 1) := by decide +kernel
theorem d3 : decode yB 3 = .ok (.isub, 1) := by decide +kernel
theorem d4 : decode yB 4 = .ok (.bipush 31, 2) := by decide +kernel
theorem d6 : decode yB 6 = .ok (.iushr, 1) := by decide +kernel
theorem d7 : decode yB 7 = .ok (.i2b, 1) := by decide +kernel
theorem d8 : decode yB 8 = .ok (.ireturn, 1) := by decide +kernel
def site : List Cond := []
def tab : Cond := tabOf yN yB 2 (some .byte) site
def P (d : Addr) (B : Cell) (args : Array Value) (s : State) : Prop := args = #[.ref d, .int (Int32.ofNat B.slots.size)] ∧ Arr .byte d B s
def E (r : Option Value) (s u : State) : Prop := XT.PureE (some (.int 0)) r s u
/-- an array as long as the number of chars: LATIN1 -/
theorem law (l : Launch) (d : Addr) (B : Cell) : Law l yN 2 2 0 0 yB 2 (some .byte) site (P d B) E [] 0 0 := by
  refine Law.of_walk (plainFor_of_name (by decide +kernel)) (by decide +kernel) (by decide +kernel) (by decide) (fun _ _ h => by rw [h.1]; rfl) (fun _ U U' hal hh h => ⟨h.1, h.2.mv hal hh⟩) (fun r U U' V V' h1 hal h2 h => XT.PureE.mv r U U' V V' h1 hal h2 h) ?_
  intro p e s m args below meth c s₁ X0 hexec hbytes hml hret hlk hnm hown hh0 W hP
  obtain ⟨rfl, hB⟩ := hP
  have hB0 := hB.mv X0.warmed.alike hh0
  have c1 : Steps p.tables e below (s₁.setTop (entryFrame m #[.ref d, .int (Int32.ofNat B.slots.size)] 2)) (s₁.setTop (mkF m 0 #[.val (.ref d), .val (.int (Int32.ofNat B.slots.size))] [])) := entry rfl
  have c2 : Steps p.tables e below (s₁.setTop (entryFrame m #[.ref d, .int (Int32.ofNat B.slots.size)] 2)) (s₁.setTop (mkF m 2 #[.val (.ref d), .val (.int (Int32.ofNat B.slots.size))] [.ref d, .int (Int32.ofNat B.slots.size)])) := c1.trans (by
    refine XS.iloadN X0.here hexec rfl (hb hbytes d0) rfl ?_
    refine XS.aloadN X0.here hexec rfl (hb hbytes d1) rfl rfl ?_
    exact Steps.refl _)
  have c3 : Steps p.tables e below (s₁.setTop (entryFrame m #[.ref d, .int (Int32.ofNat B.slots.size)] 2)) (s₁.setTop (mkF m 8 #[.val (.ref d), .val (.int (Int32.ofNat B.slots.size))] [.int (lo8 (ushr (Int32.ofNat B.slots.size - Int32.ofNat B.slots.size) 31))])) := c2.trans (by
    refine X0.alen hexec hB0 rfl rfl (hb hbytes d2) ?_
    refine XS.isub X0.here hexec rfl (hb hbytes d3) rfl ?_
    refine bipushV X0.here hexec rfl 31 (hb hbytes d4) (by decide) ?_
    refine iushr X0.here hexec rfl (hb hbytes d6) rfl ?_
    refine i2b X0.here hexec rfl (hb hbytes d7) rfl ?_
    exact Steps.refl _)
  have e0 : lo8 (ushr (Int32.ofNat B.slots.size - Int32.ofNat B.slots.size) 31) = 0 := by rw [Int32.sub_self]; decide
  rw [e0] at c3
  exact ⟨s₁, some (.int 0), _, _, _, X0, rfl, rfl, rfl, (fun h => by cases h), ⟨rfl, hh0⟩, fun fs hl => c3.trans (X0.ireturnOut hexec hret rfl (Or.inr (Or.inr (Or.inl rfl))) (hb hbytes d8) hl)⟩
end CodL
/-- the String at a is Latin-1 over a new byte[] (the heap's one new cell): the low bytes of the len chars of A from o on; every cell but a is kept -/
def Got (a : Addr) (D : Cell) (fV fC : Field) (A : Cell) (o len : Nat) (r : Option Value) (s u : State) : Prop := r = none ∧ ∃ D' V : Cell, Blank "java/lang/String" a D' u ∧ Same D D' [fV.slot, fC.slot] ∧ D'.slots[fV.slot]? = some (.ref s.heap.size) ∧ D'.slots[fC.slot]? = some (.int 0) ∧ Arr .byte s.heap.size V u ∧ V.vm = .none ∧ u.vm.findClass "[B" = some V.cls ∧ V.slots.size = len ∧ (∀ j, j < len → V.slots[j]? = some (.int (lo8 (cv A (o + j))))) ∧ (∀ (y : Addr) (c : Cell), y ≠ a → s.heap[y]? = some c → u.heap[y]? = some c) ∧ u.heap.size = s.heap.size + 1
theorem Got.mv {a : Addr} {D A : Cell} {fV fC : Field} {o len : Nat} : ∀ r (U U' V V' : State), U'.heap = U.heap → V.vm.Alike V'.vm → V'.heap = V.heap → Got a D fV fC A o len r U V → Got a D fV fC A o len r U' V' :=
  fun r U U' V V' h1 hal h2 ⟨e0, D', X, a1, a2, a3, a4, a5, a6, a7, a8, a9, a10, a11⟩ => ⟨e0, D', X, a1.mv hal h2, a2, by rw [h1]; exact a3, a4, by rw [h1]; exact a5.mv hal h2, a6, by rw [hal.findClass]; exact a7, a8, a9, by rw [h1, h2]; exact a10, by rw [h1, h2]; exact a11⟩
namespace New4
def yN : MethodName := ⟨"java/lang/String", "<init>", "([CIILjava/lang/Void;)V"⟩
abbrev yB : ByteArray := jdk_42_method_149_code
theorem d0 : decode yB 0 = .ok (.aload_n 0, 1) := by decide +kernel
theorem d1 : decode yB 1 = .ok (.invokespecial 1, 3) := by decide +kernel
theorem d4 : decode yB 4 = .ok (.iload_n 3, 1) := by decide +kernel
theorem d5 : decode yB 5 = .ok (.ifCond (.ne) 22, 3) := by decide +kernel
theorem d27 : decode yB 27 = .ok (.getstatic 38, 3) := by decide +kernel
theorem d30 : decode yB 30 = .ok (.ifCond (.eq) 28, 3) := by decide +kernel
theorem d33 : decode yB 33 = .ok (.aload_n 1, 1) := by decide +kernel
theorem d34 : decode yB 34 = .ok (.iload_n 2, 1) := by decide +kernel
theorem d35 : decode yB 35 = .ok (.iload_n 3, 1) := by decide +kernel
theorem d36 : decode yB 36 = .ok (.invokestatic 177, 3) := by decide +kernel
theorem d39 : decode yB 39 = .ok (.astore 5, 2) := by decide +kernel
theorem d41 : decode yB 41 = .ok (.aload_n 0, 1) := by decide +kernel
theorem d42 : decode yB 42 = .ok (.aload 5, 2) := by decide +kernel
theorem d44 : decode yB 44 = .ok (.iload_n 3, 1) := by decide +kernel
theorem d45 : decode yB 45 = .ok (.invokestatic 47, 3) := by decide +kernel
theorem d48 : decode yB 48 = .ok (.putfield 15, 3) := by decide +kernel
theorem d51 : decode yB 51 = .ok (.aload_n 0, 1) := by decide +kernel
theorem d52 : decode yB 52 = .ok (.aload 5, 2) := by decide +kernel
theorem d54 : decode yB 54 = .ok (.putfield 9, 3) := by decide +kernel
theorem d57 : decode yB 57 = .ok (.return_, 1) := by decide +kernel
def site : List Cond := [.fieldLink "java/lang/String" 38 "java/lang/String" "COMPACT_STRINGS" "Z", Cmp3.tab, CodL.tab, .laysFinal "java/lang/String" "java/lang/String" "value" "[B", .fieldLink "java/lang/String" 9 "java/lang/String" "value" "[B", .laysFinal "java/lang/String" "java/lang/String" "coder" "B", .fieldLink "java/lang/String" 15 "java/lang/String" "coder" "B"] ++ objW "java/lang/String" 1 ++ staticW "java/lang/String" 177 Cmp3.yN ++ staticW "java/lang/String" 47 CodL.yN
def tab : Cond := tabOf yN yB 6 none site
def P (a : Addr) (D : Cell) (fV fC : Field) (b : Addr) (A : Cell) (z : Int32) (o len : Nat) (args : Array Value) (s : State) : Prop := args = #[.ref a, .ref b, .int (Int32.ofNat o), .int (Int32.ofNat len), .null] ∧ Blank "java/lang/String" a D s ∧ Found "java/lang/String" "value" "[B" fV s ∧ Found "java/lang/String" "coder" "B" fC s ∧ Ch b A s ∧ StaticIs s "java/lang/String" "COMPACT_STRINGS" "Z" (.int z) ∧ ¬ z = 0 ∧ 0 < len ∧ o + len ≤ A.slots.size ∧ len ≤ 536870912 ∧ ∀ i, i < len → ¬ 255 < cv A (o + i)
def E (a : Addr) (D : Cell) (fV fC : Field) (A : Cell) (o len : Nat) (r : Option Value) (s u : State) : Prop := Got a D fV fC A o len r s u
/-- len > 0, no char of the range above 255: a Latin-1 String of their low bytes -/
theorem law (l : Launch) (a : Addr) (D : Cell) (fV fC : Field) (b : Addr) (A : Cell) (z : Int32) (o len : Nat) : Law l yN 5 4 2 35 yB 6 none site (P a D fV fC b A z o len) (E a D fV fC A o len) [⟨a, fC.slot⟩, ⟨a, fV.slot⟩] 1 len := by
  refine Law.of_walk (plainFor_of_name (by decide +kernel)) (by decide +kernel) (by decide +kernel) (by decide) (fun _ _ h => by rw [h.1]; rfl) (fun _ U U' hal hh h => ⟨h.1, h.2.1.mv hal hh, h.2.2.1.al hal, h.2.2.2.1.al hal, h.2.2.2.2.1.mv hal hh, h.2.2.2.2.2.1.there hal hh, h.2.2.2.2.2.2⟩) (fun r U U' V V' h1 hal h2 h => Got.mv r U U' V V' h1 hal h2 h) ?_
  intro p e s m args below meth c s₁ X0 hexec hbytes hml hret hlk hnm hown hh0 W hP
  obtain ⟨rfl, hB, f1, f2, hA, s1, hz, l0, l1, l2, hp⟩ := hP
  have a31 := hA.1.2.2.2
  have c1 : Steps p.tables e below (s₁.setTop (entryFrame m #[.ref a, .ref b, .int (Int32.ofNat o), .int (Int32.ofNat len), .null] 6)) (s₁.setTop (mkF m 0 #[.val (.ref a), .val (.ref b), .val (.int (Int32.ofNat o)), .val (.int (Int32.ofNat len)), .val .null, .unset] [])) := entry rfl
  have c2 : Steps p.tables e below (s₁.setTop (entryFrame m #[.ref a, .ref b, .int (Int32.ofNat o), .int (Int32.ofNat len), .null] 6)) (s₁.setTop (mkF m 1 #[.val (.ref a), .val (.ref b), .val (.int (Int32.ofNat o)), .val (.int (Int32.ofNat len)), .val .null, .unset] [.ref a])) := c1.trans (by
    refine XS.aloadN X0.here hexec rfl (hb hbytes d0) rfl rfl ?_
    exact Steps.refl _)
  obtain ⟨T3, X3, q3, st3⟩ := X0.oinit hexec hown (wks W (objW "java/lang/String" 1)) (g := (mkF m 1 #[.val (.ref a), .val (.ref b), .val (.int (Int32.ofNat o)), .val (.int (Int32.ofNat len)), .val .null, .unset] [.ref a])) rfl (by rw [hml]; rfl) (rest := []) rfl (hb hbytes d1) (W := 0) (by show 2 * 0 + 0 ≤ _; decide) (Nat.le_of_ble_eq_true rfl) (Nat.le_of_ble_eq_true rfl)
  have hh3 := q3.trans hh0
  have c4 : Steps p.tables e below (s₁.setTop (entryFrame m #[.ref a, .ref b, .int (Int32.ofNat o), .int (Int32.ofNat len), .null] 6)) (T3.setTop (mkF m 27 #[.val (.ref a), .val (.ref b), .val (.int (Int32.ofNat o)), .val (.int (Int32.ofNat len)), .val .null, .unset] [])) := (c2.trans (st3 _ (Steps.refl _))).trans (by
    refine XS.iloadN X3.here hexec rfl (hb hbytes d4) rfl ?_
    refine XS.ifYes X3.here hexec rfl (pc0 := 5) rfl (hb hbytes d5) rfl (i0_ne_t (nz32 (by omega) l0)) (by decide) rfl ?_
    exact Steps.refl _)
  obtain ⟨T5, X5, q5, st5⟩ := X3.sget hexec hown (wk W (.fieldLink "java/lang/String" 38 "java/lang/String" "COMPACT_STRINGS" "Z")) s1 (fun _ _ h => by rw [hh3]; exact h) (g := (mkF m 27 #[.val (.ref a), .val (.ref b), .val (.int (Int32.ofNat o)), .val (.int (Int32.ofNat len)), .val .null, .unset] [])) rfl (hb hbytes d27)
  have hh5 := q5.trans hh3
  have c6 : Steps p.tables e below (s₁.setTop (entryFrame m #[.ref a, .ref b, .int (Int32.ofNat o), .int (Int32.ofNat len), .null] 6)) (T5.setTop (mkF m 30 #[.val (.ref a), .val (.ref b), .val (.int (Int32.ofNat o)), .val (.int (Int32.ofNat len)), .val .null, .unset] [.int z])) := c4.trans (st5 _ (Steps.refl _))
  have c7 : Steps p.tables e below (s₁.setTop (entryFrame m #[.ref a, .ref b, .int (Int32.ofNat o), .int (Int32.ofNat len), .null] 6)) (T5.setTop (mkF m 36 #[.val (.ref a), .val (.ref b), .val (.int (Int32.ofNat o)), .val (.int (Int32.ofNat len)), .val .null, .unset] [.int (Int32.ofNat len), .int (Int32.ofNat o), .ref b])) := c6.trans (by
    refine XS.ifNo X5.here hexec rfl (hb hbytes d30) rfl (i0_eq_f hz) ?_
    refine XS.aloadN X5.here hexec rfl (hb hbytes d33) rfl rfl ?_
    refine XS.iloadN X5.here hexec rfl (hb hbytes d34) rfl ?_
    refine XS.iloadN X5.here hexec rfl (hb hbytes d35) rfl ?_
    exact Steps.refl _)
  obtain ⟨v8, T8, X8, E8, g8⟩ := X5.callS hexec (Cmp3.law l b A o len) hown (wks W (staticW "java/lang/String" 177 Cmp3.yN)) (wk W Cmp3.tab) (W := 0) (Nat.le_of_ble_eq_true rfl) (Nat.le_of_ble_eq_true rfl) (Nat.le_refl _) (by show 0 + len ≤ len; omega) (g := (mkF m 36 #[.val (.ref a), .val (.ref b), .val (.int (Int32.ofNat o)), .val (.int (Int32.ofNat len)), .val .null, .unset] [.int (Int32.ofNat len), .int (Int32.ofNat o), .ref b])) rfl (by rw [hml]; rfl) c7 (argsL := [.ref b, .int (Int32.ofNat o), .int (Int32.ofNat len)]) (rest := []) rfl rfl (by show 2 * 0 + 0 ≤ _; decide) (hb hbytes d36) (⟨rfl, hA.mv X5.warmed.alike hh5, l1, l2, hp⟩)
  obtain ⟨e8, z8⟩ := E8
  obtain ⟨rfl, N, n1, n2, n3, n4, n5, n6⟩ := NewArr.mv _ T5 s _ _ hh5.symm (Vm.Alike.refl _) rfl e8
  rw [hh5] at z8
  have hB1 := hB.keep X8.warmed.alike (n6 _ _ hB.1)
  have hne : s.heap.size ≠ a := (Nat.ne_of_lt (Array.getElem?_eq_some_iff.mp hB.1).1).symm
  have c9 : Steps p.tables e below (s₁.setTop (entryFrame m #[.ref a, .ref b, .int (Int32.ofNat o), .int (Int32.ofNat len), .null] 6)) (T8.setTop (mkF m 39 #[.val (.ref a), .val (.ref b), .val (.int (Int32.ofNat o)), .val (.int (Int32.ofNat len)), .val .null, .unset] [.ref s.heap.size])) := g8
  have c10 : Steps p.tables e below (s₁.setTop (entryFrame m #[.ref a, .ref b, .int (Int32.ofNat o), .int (Int32.ofNat len), .null] 6)) (T8.setTop (mkF m 45 #[.val (.ref a), .val (.ref b), .val (.int (Int32.ofNat o)), .val (.int (Int32.ofNat len)), .val .null, .val (.ref s.heap.size)] [.int (Int32.ofNat N.slots.size), .ref s.heap.size, .ref a])) := by
    have hc : Steps p.tables e below (s₁.setTop (entryFrame m #[.ref a, .ref b, .int (Int32.ofNat o), .int (Int32.ofNat len), .null] 6)) (T8.setTop (mkF m 45 #[.val (.ref a), .val (.ref b), .val (.int (Int32.ofNat o)), .val (.int (Int32.ofNat len)), .val .null, .val (.ref s.heap.size)] [.int (Int32.ofNat len), .ref s.heap.size, .ref a])) := c9.trans (by
      refine XS.astore X8.here hexec rfl (hb hbytes d39) rfl rfl rfl ?_
      refine XS.aloadN X8.here hexec rfl (hb hbytes d41) rfl rfl ?_
      refine XS.aload X8.here hexec rfl (hb hbytes d42) rfl rfl ?_
      refine XS.iloadN X8.here hexec rfl (hb hbytes d44) rfl ?_
      exact Steps.refl _)
    rw [n4]; exact hc
  obtain ⟨v11, T11, X11, E11, g11⟩ := X8.callS hexec (CodL.law l s.heap.size N) hown (wks W (staticW "java/lang/String" 47 CodL.yN)) (wk W CodL.tab) (W := 1) (Nat.le_of_ble_eq_true rfl) (Nat.le_of_ble_eq_true rfl) (Nat.le_refl _) (by show 0 + len + 0 ≤ len; omega) (g := (mkF m 45 #[.val (.ref a), .val (.ref b), .val (.int (Int32.ofNat o)), .val (.int (Int32.ofNat len)), .val .null, .val (.ref s.heap.size)] [.int (Int32.ofNat N.slots.size), .ref s.heap.size, .ref a])) rfl (by rw [hml]; rfl) c10 (argsL := [.ref s.heap.size, .int (Int32.ofNat N.slots.size)]) (rest := [.ref a]) rfl rfl (by show 2 * 0 + (1 + 0) ≤ _; decide) (hb hbytes d45) (⟨rfl, n1⟩)
  obtain ⟨rfl, q11⟩ := E11
  have hB11 := hB1.mv (X8.warmed.alike.symm.trans X11.warmed.alike) q11
  have c12 : Steps p.tables e below (s₁.setTop (entryFrame m #[.ref a, .ref b, .int (Int32.ofNat o), .int (Int32.ofNat len), .null] 6)) (T11.setTop (mkF m 48 #[.val (.ref a), .val (.ref b), .val (.int (Int32.ofNat o)), .val (.int (Int32.ofNat len)), .val .null, .val (.ref s.heap.size)] [.int 0, .ref a])) := g11
  obtain ⟨T13, X13, p13, bl13, sl13, st13⟩ := X11.finit hexec hown (wk W (.fieldLink "java/lang/String" 15 "java/lang/String" "coder" "B")) (Or.inr ⟨_, (wk W (.laysFinal "java/lang/String" "java/lang/String" "coder" "B"))⟩) (Or.inl ⟨rfl, hnm⟩) f2 (Or.inl rfl) hB11 (t := .byte) (by decide +kernel) rfl (g := (mkF m 48 #[.val (.ref a), .val (.ref b), .val (.int (Int32.ofNat o)), .val (.int (Int32.ofNat len)), .val .null, .val (.ref s.heap.size)] [.int 0, .ref a])) rfl (rest := []) rfl (hb hbytes d48)
  have c14 : Steps p.tables e below (s₁.setTop (entryFrame m #[.ref a, .ref b, .int (Int32.ofNat o), .int (Int32.ofNat len), .null] 6)) (T13.setTop (mkF m 54 #[.val (.ref a), .val (.ref b), .val (.int (Int32.ofNat o)), .val (.int (Int32.ofNat len)), .val .null, .val (.ref s.heap.size)] [.ref s.heap.size, .ref a])) := (c12.trans (st13 _ (Steps.refl _))).trans (by
    refine XS.aloadN X13.here hexec rfl (hb hbytes d51) rfl rfl ?_
    refine XS.aload X13.here hexec rfl (hb hbytes d52) rfl rfl ?_
    exact Steps.refl _)
  obtain ⟨T15, X15, p15, bl15, sl15, st15⟩ := X13.finit hexec hown (wk W (.fieldLink "java/lang/String" 9 "java/lang/String" "value" "[B")) (Or.inr ⟨_, (wk W (.laysFinal "java/lang/String" "java/lang/String" "value" "[B"))⟩) (Or.inl ⟨rfl, hnm⟩) f1 (Or.inl rfl) bl13 (t := (.array .byte)) (by decide +kernel) rfl (g := (mkF m 54 #[.val (.ref a), .val (.ref b), .val (.int (Int32.ofNat o)), .val (.int (Int32.ofNat len)), .val .null, .val (.ref s.heap.size)] [.ref s.heap.size, .ref a])) rfl (rest := []) rfl (hb hbytes d54)
  have c16 : Steps p.tables e below (s₁.setTop (entryFrame m #[.ref a, .ref b, .int (Int32.ofNat o), .int (Int32.ofNat len), .null] 6)) (T15.setTop (mkF m 57 #[.val (.ref a), .val (.ref b), .val (.int (Int32.ofNat o)), .val (.int (Int32.ofNat len)), .val .null, .val (.ref s.heap.size)] [])) := c14.trans (st15 _ (Steps.refl _))
  have ap := apart (Or.inr ⟨_, (wk W (.laysFinal "java/lang/String" "java/lang/String" "value" "[B"))⟩) (Or.inr ⟨_, (wk W (.laysFinal "java/lang/String" "java/lang/String" "coder" "B"))⟩) f1 f2 (t₁ := .array .byte) (t₂ := .byte) (by decide +kernel) (by decide +kernel) (by decide)
  have al := X8.warmed.alike.symm.trans X15.warmed.alike
  have n7 : T11.heap[s.heap.size]? = some N := by rw [q11]; exact n1.1
  exact ⟨T15, none, _, _, _, X15, by simp, rfl, by omega, (fun _ => rfl), ⟨rfl, _, N, bl15, ((Same.refl D _).set _ (by simp)).set _ (by simp), sl15, (Cell.slots_setSlot_ne _ ap).trans sl13, n1.keep al (p15.other hne (p13.other hne n7)), n2, by rw [al.findClass]; exact n3, n4, n5, fun y c h1 h2 => p15.other h1 (p13.other h1 (by rw [q11]; exact n6 y c h2)), by rw [p15.2.2, p13.2.2, q11]; exact z8⟩, fun fs hl => c16.trans (X15.returnOut hexec hret (hb hbytes d57) hl)⟩
end New4
namespace New1
def yN : MethodName := ⟨"java/lang/String", "<init>", "([C)V"⟩
abbrev yB : ByteArray := jdk_42_method_3_code
theorem d0 : decode yB 0 = .ok (.aload_n 0, 1) := by decide +kernel
theorem d1 : decode yB 1 = .ok (.aload_n 1, 1) := by decide +kernel
theorem d2 : decode yB 2 = .ok (.iconst 0, 1) := by decide +kernel
theorem d3 : decode yB 3 = .ok (.aload_n 1, 1) := by decide +kernel
theorem d4 : decode yB 4 = .ok (.arraylength, 1) := by decide +kernel
theorem d5 : decode yB 5 = .ok (.aconst_null, 1) := by decide +kernel
theorem d6 : decode yB 6 = .ok (.invokespecial 27, 3) := by decide +kernel
theorem d9 : decode yB 9 = .ok (.return_, 1) := by decide +kernel
def site : List Cond := [New4.tab] ++ initW "java/lang/String" 27 New4.yN
def tab : Cond := tabOf yN yB 2 none site
def P (a : Addr) (D : Cell) (fV fC : Field) (b : Addr) (A : Cell) (z : Int32) (args : Array Value) (s : State) : Prop := args = #[.ref a, .ref b] ∧ Blank "java/lang/String" a D s ∧ Found "java/lang/String" "value" "[B" fV s ∧ Found "java/lang/String" "coder" "B" fC s ∧ Ch b A s ∧ StaticIs s "java/lang/String" "COMPACT_STRINGS" "Z" (.int z) ∧ ¬ z = 0 ∧ 0 < A.slots.size ∧ A.slots.size ≤ 536870912 ∧ ∀ i, i < A.slots.size → ¬ 255 < cv A i
def E (a : Addr) (D : Cell) (fV fC : Field) (A : Cell) (r : Option Value) (s u : State) : Prop := Got a D fV fC A 0 A.slots.size r s u
/-- new String(chars), not empty, no char above 255: a Latin-1 String of their low bytes -/
theorem law (l : Launch) (a : Addr) (D : Cell) (fV fC : Field) (b : Addr) (A : Cell) (z : Int32) : Law l yN 2 1 3 52 yB 2 none site (P a D fV fC b A z) (E a D fV fC A) [⟨a, fC.slot⟩, ⟨a, fV.slot⟩] 1 A.slots.size := by
  refine Law.of_walk (plainFor_of_name (by decide +kernel)) (by decide +kernel) (by decide +kernel) (by decide) (fun _ _ h => by rw [h.1]; rfl) (fun _ U U' hal hh h => ⟨h.1, h.2.1.mv hal hh, h.2.2.1.al hal, h.2.2.2.1.al hal, h.2.2.2.2.1.mv hal hh, h.2.2.2.2.2.1.there hal hh, h.2.2.2.2.2.2⟩) (fun r U U' V V' h1 hal h2 h => Got.mv r U U' V V' h1 hal h2 h) ?_
  intro p e s m args below meth c s₁ X0 hexec hbytes hml hret hlk hnm hown hh0 W hP
  obtain ⟨rfl, hB, f1, f2, hA, s1, hz, l0, l2, hp⟩ := hP
  have c1 : Steps p.tables e below (s₁.setTop (entryFrame m #[.ref a, .ref b] 2)) (s₁.setTop (mkF m 0 #[.val (.ref a), .val (.ref b)] [])) := entry rfl
  have c2 : Steps p.tables e below (s₁.setTop (entryFrame m #[.ref a, .ref b] 2)) (s₁.setTop (mkF m 6 #[.val (.ref a), .val (.ref b)] [.null, .int (Int32.ofNat A.slots.size), .int 0, .ref b, .ref a])) := c1.trans (by
    refine XS.aloadN X0.here hexec rfl (hb hbytes d0) rfl rfl ?_
    refine XS.aloadN X0.here hexec rfl (hb hbytes d1) rfl rfl ?_
    refine iconstV X0.here hexec rfl 0 (hb hbytes d2) (by decide) ?_
    refine XS.aloadN X0.here hexec rfl (hb hbytes d3) rfl rfl ?_
    refine X0.alen hexec (hA.1.mv X0.warmed.alike hh0) rfl rfl (hb hbytes d4) ?_
    refine XS.aconstNull X0.here hexec rfl (hb hbytes d5) ?_
    exact Steps.refl _)
  obtain ⟨v3, T3, X3, E3, g3⟩ := X0.callN hexec (New4.law l a D fV fC b A z 0 A.slots.size) rfl hown (wks W (initW "java/lang/String" 27 New4.yN)) (W New4.tab (by simp only [site, List.mem_cons, List.mem_append, true_or, or_true])) (W := 0) (Nat.le_of_ble_eq_true rfl) (Nat.le_of_ble_eq_true rfl) (Nat.le_refl _) (by show 0 + A.slots.size ≤ A.slots.size; omega) (g := (mkF m 6 #[.val (.ref a), .val (.ref b)] [.null, .int (Int32.ofNat A.slots.size), .int (Int32.ofNat 0), .ref b, .ref a])) rfl (by rw [hml]; rfl) c2 (argsL := [.ref b, .int (Int32.ofNat 0), .int (Int32.ofNat A.slots.size), .null]) (rest := []) rfl rfl (by show 2 * 0 + 0 ≤ _; decide) (hb hbytes d6) (⟨rfl, hB.mv X0.warmed.alike hh0, f1.al X0.warmed.alike, f2.al X0.warmed.alike, hA.mv X0.warmed.alike hh0, s1.there X0.warmed.alike hh0, hz, l0, by omega, l2, fun i hi => by rw [Nat.zero_add]; exact hp i hi⟩)
  have e0 := Got.mv _ s₁ s _ _ hh0.symm (Vm.Alike.refl _) rfl E3
  obtain rfl := e0.1
  have c4 : Steps p.tables e below (s₁.setTop (entryFrame m #[.ref a, .ref b] 2)) (T3.setTop (mkF m 9 #[.val (.ref a), .val (.ref b)] [])) := g3
  exact ⟨T3, none, _, _, _, X3, by simp, rfl, by omega, (fun _ => rfl), e0, fun fs hl => c4.trans (X3.returnOut hexec hret (hb hbytes d9) hl)⟩
theorem pays {l : Launch} {R : Room} {p : Program} {e : Env} {below : List Frame} {s : State} {sargs : Array Value} {len W : Nat} (a : Addr) (D : Cell) (fV fC : Field) (b : Addr) (A : Cell) (z : Int32) (htab : tab.before sargs s = true) (hfr : 4 ≤ R.frames) (hlo : W + 65 ≤ R.locals) :
    Back l R p e below s sargs yN len W (fun A₁ a₁ => A₁.cells + 1 ≤ R.cells ∧ A₁.slots + A.slots.size ≤ R.slots ∧ P a D fV fC b A z a₁ A₁.U) (fun A₁ _ v₁ B₁ => E a D fV fC A v₁ A₁.U B₁.U ∧ B₁.locs = A₁.locs ++ [⟨a, fC.slot⟩, ⟨a, fV.slot⟩] ∧ B₁.cells = A₁.cells + 1 ∧ B₁.slots = A₁.slots + A.slots.size) :=
  (law l a D fV fC b A z).pays htab hfr (by omega)
end New1
/-- the byte, read back as charAt reads it, is the char -/
theorem lo8_mask {x : Int32} (h0 : ¬ x < 0) (h1 : ¬ 255 < x) : lo8 x &&& 255 = x := by
  have t : ∀ k : Fin 256, lo8 (Int32.ofNat k.val) &&& 255 = Int32.ofNat k.val := by decide +kernel
  rw [Int32.lt_iff_toInt_lt] at h0 h1
  have e0 : (0 : Int32).toInt = 0 := rfl
  have e1 : (255 : Int32).toInt = 255 := rfl
  obtain ⟨k, hk⟩ : ∃ k : Nat, x.toInt = k := ⟨x.toInt.toNat, by omega⟩
  have hx : x = Int32.ofNat k := Int32.toInt_inj.mp (by rw [hk, Int32.toInt_ofNat_small (by omega)])
  rw [hx]
  exact t ⟨k, by omega⟩
end StrChars
namespace StrChars.Road
open Jvm Sem ClassFile Op Lib Jvm.Stand Jvm.Free Jvm.Free.XT
open Jvm.Lib.Cold (StaticIs)
abbrev ST : String := "java/lang/String"
/-- every table word that New1's law asks, flat -/
abbrev words : List Jvm.Cond := [.code New1.yN New1.yB 2 none, .initialized ST, .methodLink ST 27 New4.yN, .instanceMethod New4.yN,
  .code New4.yN New4.yB 6 none, .fieldLink ST 38 ST "COMPACT_STRINGS" "Z", .laysFinal ST ST "value" "[B", .fieldLink ST 9 ST "value" "[B", .laysFinal ST ST "coder" "B", .fieldLink ST 15 ST "coder" "B",
  .methodLink ST 1 Lib.objectInit, .instanceMethod Lib.objectInit, .code Lib.objectInit ⟨#[0xb1]⟩ 1 none, .methodLink ST 177 Cmp3.yN, .static Cmp3.yN, .methodLink ST 47 CodL.yN, .static CodL.yN,
  .code Cmp3.yN Cmp3.yB 6 (some (.array .byte)), .initialized U16, .arrayClass .byte, .methodLink U16 115 Cmp5.yN, .static Cmp5.yN, .code Cmp5.yN Cmp5.yB 7 (some .int), .code CodL.yN CodL.yB 2 (some .byte)]
theorem tab_of {a : Array Value} {s : State} (h : ∀ w ∈ words, w.before a s = true) : New1.tab.before a s = true := by
  have h5 : Cmp5.tab.before a s = true := unparts (wk h (.code Cmp5.yN Cmp5.yB 7 (some .int))) (wks h (.initialized Cmp5.yN.cls :: Cmp5.site))
  have hc : CodL.tab.before a s = true := unparts (wk h (.code CodL.yN CodL.yB 2 (some .byte))) (wks h (.initialized CodL.yN.cls :: CodL.site))
  have q5 : ∀ w ∈ Cmp5.tab :: words, w.before a s = true := fun w hw => (List.mem_cons.mp hw).elim (fun e => e ▸ h5) (h w)
  have h3 : Cmp3.tab.before a s = true := unparts (wk q5 (.code Cmp3.yN Cmp3.yB 6 (some (.array .byte)))) (wks q5 (.initialized Cmp3.yN.cls :: Cmp3.site))
  have q3 : ∀ w ∈ Cmp3.tab :: CodL.tab :: words, w.before a s = true := fun w hw => (List.mem_cons.mp hw).elim (fun e => e ▸ h3) fun hw => (List.mem_cons.mp hw).elim (fun e => e ▸ hc) (h w)
  have h4 : New4.tab.before a s = true := unparts (wk q3 (.code New4.yN New4.yB 6 none)) (wks q3 (.initialized New4.yN.cls :: New4.site))
  have q4 : ∀ w ∈ New4.tab :: words, w.before a s = true := fun w hw => (List.mem_cons.mp hw).elim (fun e => e ▸ h4) (h w)
  exact unparts (wk q4 (.code New1.yN New1.yB 2 none)) (wks q4 (.initialized New1.yN.cls :: New1.site))
/-- the words ride from the start Z to the walk's own state -/
theorem moved {Z s : State} {a0 args : Array Value} (hZ : Z.Warmed39 s.vm) (hw : ∀ d ∈ words, d.before a0 Z = true) : ∀ d ∈ words, d.before args s = true := fun d hd => by
  have q := hw d hd
  have t : ∀ d ∈ words, d = .arrayClass .byte ∨ (d.onTables && d.keepsFace) = true := by decide +kernel
  rcases t d hd with rfl | t
  · exact RoadKit.mvA hZ q
  · exact RoadKit.mv hZ q t
/-- WHAT COMES BACK, over the tables of the start Z: h the heap at the call, h' behind it -/
def Q (Z : State) (x : Addr) (A : Cell) (h : Heap) (v : Option Value) (h' : Heap) (L : List Loc) : Prop := v = none ∧ (∀ y ∈ L, y.base = x) ∧ RoadKit.Keep h h' [x] ∧ h'.size = h.size + 1 ∧ RoadKit.Exa Z h' x ST ∧ RoadKit.Fld Z h' x ST "value" "[B" (.ref h.size) ∧ RoadKit.Fld Z h' x ST "coder" "B" (.int 0) ∧
  (∃ V : Cell, RoadKit.Arr Z h' h.size V .byte ∧ V.vm = .none ∧ Z.vm.findClass "[B" = some V.cls ∧ V.slots.size = A.slots.size ∧ ∀ j, j < A.slots.size → V.slots[j]? = some (.int (lo8 (cv A j)))) ∧
  ∀ (O n d : String) (w : Value), RoadKit.Fld Z h x O n d w → RoadKit.slotOf Z O n d ≠ RoadKit.slotOf Z ST "value" "[B" → RoadKit.slotOf Z O n d ≠ RoadKit.slotOf Z ST "coder" "B" → RoadKit.Fld Z h' x O n d w
/-- **new String(chars) AT A CALL, IN THE ROAD'S FORM**: for specialBack behind newO: x the fresh String, b the char[] with the cell A -/
theorem back {p : Program} {l : Launch} {e : Env} {R : Room} {s : State} {args : Array Value} {below : List Frame} {len W : Nat} {Z : State} {a0 : Array Value} {h : Heap} (hZ : Z.Warmed39 s.vm) (hw : ∀ d ∈ words, d.before a0 Z = true) {kI : Nat} (wi : (Jvm.Cond.instantiable ST kI).before a0 Z = true)
    {x b : Addr} {A : Cell} {z : Int32} {v0 c0 : Value} (E : RoadKit.Exa Z h x ST) (V : RoadKit.Fld Z h x ST "value" "[B" v0) (C : RoadKit.Fld Z h x ST "coder" "B" c0) (K : RoadKit.Arr Z h b A .char) (hty : Typed .char A) (S : RoadKit.Sta Z h ST "COMPACT_STRINGS" "Z" (.int z)) (hz : ¬ z = 0)
    (l0 : 0 < A.slots.size) (l2 : A.slots.size ≤ 536870912) (hp : ∀ i, i < A.slots.size → ¬ 255 < cv A i) (hfr : 4 ≤ R.frames) (hlo : W + 65 ≤ R.locals) :
    Back l R p e below s args New1.yN len W (fun P a => a = #[.ref x, .ref b] ∧ P.U.heap = h ∧ P.cells + 1 ≤ R.cells ∧ P.slots + A.slots.size ≤ R.slots)
      (fun P _ v B => ∃ L, Q Z x A h v B.U.heap L ∧ B.locs = P.locs ++ L ∧ B.cells = P.cells + 1 ∧ B.slots = P.slots + A.slots.size) := by
  intro m meth c P g ig mk a X hg hsize hdg hW hn hp'
  obtain ⟨rfl, rfl, r1, r2⟩ := hp'
  have al : Z.vm.Alike P.U.vm := hZ.alike.trans X.warmed.alike
  obtain ⟨D, cfV, kV, iV, fV, hD, gV, stV, knV, obV, asV, slV⟩ := id V
  obtain ⟨D', cfC, kC, iC, fC, hD', gC, stC, -, -, asC, slC⟩ := id C
  cases hD.symm.trans hD'
  obtain ⟨D2, kD, e1, e2, e3, e4, e5⟩ := id E
  cases hD.symm.trans e1
  obtain ⟨c2, k2, i1, i2, i3, -⟩ := Cond.instantiable_spec wi
  cases e2.symm.trans i1
  cases e3.symm.trans i2
  obtain ⟨kU, u1, u2⟩ := al.2.2 _ _ e3
  have hB : Blank ST x D P.U := ⟨hD, ⟨knV, fun q hq => by rw [hq] at obV; cases obV⟩, by rw [al.findClass]; exact e2, kU, u1, by rw [u2]; exact i3, by rw [u2]; exact e5 i3⟩
  have F1 : Found ST "value" "[B" fV P.U := ⟨SBG.found_only al ⟨cfV, kV, iV, gV⟩, stV⟩
  have F2 : Found ST "coder" "B" fC P.U := ⟨SBG.found_only al ⟨cfC, kC, iC, gC⟩, stC⟩
  have hA : Ch b A P.U := ⟨⟨K.1, State.isArrayOf_alike al K.2.1, K.2.2, by omega⟩, hty⟩
  have hS : StaticIs P.U ST "COMPACT_STRINGS" "Z" (.int z) := by
    obtain ⟨cfS, iS, kS, fS, st, cS, t1, t2, t3, t4, t5, t6, t7⟩ := S
    exact StaticIs.there (s := { Z with heap := P.U.heap }) ⟨cfS, iS, kS, fS, st, cS, t1, t2, t3, t4, t5, (fun q => by rw [q] at t6; cases t6), t7⟩ al rfl
  obtain ⟨v, B, X', ⟨⟨hv, E', V', q1, q2, q3, q4, q5, q6, q7, q8, q9, q10, q11⟩, hl, hc, hs⟩, st⟩ := New1.pays x D fV fC b A z (tab_of (moved hZ hw)) hfr hlo m meth c P g ig mk _ X hg hsize hdg hW hn ⟨r1, r2, rfl, hB, F1, F2, hA, hS, hz, l0, l2, hp⟩
  have al' : Z.vm.Alike B.U.vm := hZ.alike.trans X'.warmed.alike
  have hsz : E'.slots.size = D.slots.size := by
    obtain ⟨-, -, -, kB, w1, w2, w3⟩ := q1
    obtain ⟨kB', y1, y2⟩ := al'.2.2 _ _ e3
    rw [q2.2.1] at w1
    cases w1.symm.trans y1
    rw [w3, e5 i3, y2]
  refine ⟨v, B, X', ⟨_, ⟨hv, ?_, ⟨by omega, fun y cy hy hn' => q10 y cy (by simpa using hn') hy, fun y cy hy => ?_⟩, q11, ⟨E', _, q1.1, by rw [q2.2.1]; exact e2, by rw [q2.2.1]; exact e3, by rw [q2.1]; exact obV, fun _ => by rw [hsz]; exact e5 i3⟩,
    ⟨E', cfV, kV, iV, fV, q1.1, gV, stV, by rw [q2.1]; exact knV, by rw [q2.1]; exact obV, by rw [q2.2.1]; exact asV, q3⟩, ⟨E', cfC, kC, iC, fC, q1.1, gC, stC, by rw [q2.1]; exact knV, by rw [q2.1]; exact obV, by rw [q2.2.1]; exact asC, q4⟩,
    ⟨V', ⟨q5.1, State.isArrayOf_alike al'.symm q5.2.1, q5.2.2.1⟩, q6, by rw [← al'.findClass]; exact q7, q8, fun j hj => by have := q9 j hj; rwa [Nat.zero_add] at this⟩, fun O n d w F n1 n2 => ?_⟩, hl, hc, hs⟩, st⟩
  · intro y hy
    simp only [List.mem_cons, List.not_mem_nil, or_false] at hy
    rcases hy with rfl | rfl <;> rfl
  · by_cases q : y = x
    · subst q
      cases hD.symm.trans hy
      exact ⟨E', q1.1, q2.2.1, q2.1, hsz⟩
    · exact ⟨cy, q10 y cy q hy, rfl, rfl, rfl⟩
  · obtain ⟨D3, cf, k, i, f, g1, g2, g3, g4, g5, g6, g7⟩ := F
    cases hD.symm.trans g1
    simp only [RoadKit.slotOf, g2, gV, gC, Option.map_some, Option.getD_some] at n1 n2
    exact ⟨E', cf, k, i, f, q1.1, g2, g3, by rw [q2.1]; exact g4, by rw [q2.1]; exact g5, by rw [q2.2.1]; exact g6, by rw [q2.2.2 f.slot (by simp [n1, n2])]; exact g7⟩
end StrChars.Road
namespace StrChars.Road
open Jvm Sem ClassFile Op Lib Jvm.Stand Jvm.Free Jvm.Free.XT
/-- WHAT COMES BACK, the byte[] as a list of values -/
def QA (Z : State) (x : Addr) (zn : Int32) (cs : List Int32) (h : Heap) (v : Option Value) (h' : Heap) (L : List Loc) : Prop := v = none ∧ (∀ y ∈ L, y.base = x) ∧ RoadKit.Keep h h' [x] ∧ h'.size = h.size + 1 ∧ RoadKit.Exa Z h' x ST ∧ RoadKit.Fld Z h' x ST "value" "[B" (.ref h.size) ∧ RoadKit.Fld Z h' x ST "coder" "B" (.int 0) ∧
  (∃ kb, Z.vm.findClass "[B" = some kb ∧ RoadKit.Arv Z h' h.size kb .byte zn (cs.map fun c => .int (lo8 c)) (.int 0)) ∧
  ∀ (O n d : String) (w : Value), RoadKit.Fld Z h x O n d w → RoadKit.slotOf Z O n d ≠ RoadKit.slotOf Z ST "value" "[B" → RoadKit.slotOf Z O n d ≠ RoadKit.slotOf Z ST "coder" "B" → RoadKit.Fld Z h' x O n d w
/-- **new String(chars) AT A CALL, THE ARRAYS AS LISTS**: the char[] at b holds cs, not empty, no char above 255 -/
theorem backArv {p : Program} {l : Launch} {e : Env} {R : Room} {s : State} {args : Array Value} {below : List Frame} {len W : Nat} {Z : State} {a0 : Array Value} {h : Heap} (hZ : Z.Warmed39 s.vm) (hw : ∀ d ∈ words, d.before a0 Z = true) {kI : Nat} (wi : (Jvm.Cond.instantiable ST kI).before a0 Z = true)
    {x b : Addr} {k : ClassId} {zn z : Int32} {cs : List Int32} {dv v0 c0 : Value} (E : RoadKit.Exa Z h x ST) (V : RoadKit.Fld Z h x ST "value" "[B" v0) (C : RoadKit.Fld Z h x ST "coder" "B" c0) (K : RoadKit.Arv Z h b k .char zn (cs.map Value.int) dv) (S : RoadKit.Sta Z h ST "COMPACT_STRINGS" "Z" (.int z)) (hz : ¬ z = 0)
    (hlen : zn.toNatClampNeg = cs.length) (h0 : 0 < cs.length) (hbig : cs.length ≤ 536870912) (hall : ∀ c ∈ cs, ¬ 255 < c) (hfr : 4 ≤ R.frames) (hlo : W + 65 ≤ R.locals) :
    Back l R p e below s args New1.yN len W (fun P a => a = #[.ref x, .ref b] ∧ P.U.heap = h ∧ P.cells + 1 ≤ R.cells ∧ P.slots + cs.length ≤ R.slots)
      (fun P _ v B => ∃ L, QA Z x zn cs h v B.U.heap L ∧ B.locs = P.locs ++ L ∧ B.cells = P.cells + 1 ∧ B.slots = P.slots + cs.length) := by
  obtain ⟨A, K1, K2, K3, K4, K5, K6⟩ := K
  have e : A.slots.size = cs.length := K3.trans hlen
  have hat : ∀ (i : Nat) (hi : i < cs.length), A.slots[i]? = some (.int cs[i]) := fun i hi => by rw [K5 i (by omega)]; simp [List.getD_eq_getElem?_getD, hi]
  have hcv : ∀ (i : Nat) (hi : i < cs.length), cv A i = cs[i] := fun i hi => by unfold cv; rw [hat i hi]
  have hty : Typed .char A := fun i v hv => by
    have hi : i < A.slots.size := (Array.getElem?_eq_some_iff.mp hv).1
    have q := K5 i hi
    rw [hv] at q
    rw [Option.some.inj q]
    exact K6 i hi
  refine Back.mono (back hZ hw wi E V C K1 hty S hz (by omega) (by omega) (fun i hi => by rw [hcv i (by omega)]; exact hall _ (List.getElem_mem _)) hfr hlo) (fun P a hp => ⟨hp.1, hp.2.1, hp.2.2.1, by rw [e]; exact hp.2.2.2⟩) (fun P a v B hp hq => ?_)
  obtain ⟨L, ⟨q1, q2, q3, q4, q5, q6, q7, ⟨V', v1, v2, v3, v4, v5⟩, q9⟩, hl, hc, hs⟩ := hq
  refine ⟨L, ⟨q1, q2, q3, q4, q5, q6, q7, ⟨V'.cls, v3, V', v1, rfl, by rw [v4, e, hlen], K4, fun i hi => ?_, fun i hi => ?_⟩, q9⟩, hl, hc, by rw [hs, e]⟩
  · have hi' : i < cs.length := by omega
    rw [v5 i (by omega), hcv i hi']; simp [List.getD_eq_getElem?_getD, hi']
  · have hi' : i < cs.length := by omega
    simp only [List.getD_eq_getElem?_getD, List.getElem?_map, List.getElem?_eq_getElem hi', Option.map_some, Option.getD_some]
    exact fits_lo8 _
end StrChars.Road
namespace StrChars.Road
open Jvm Sem ClassFile Op Lib Jvm.Stand Jvm.Free Jvm.Free.XT
/-- WHAT COMES BACK, in the writer's own shape -/
def QV (Z : State) (x : Addr) (N : Int32) (bs : List Int32) (h : Heap) (n0 : Nat) (v : Option Value) (h' : Heap) (L : List Loc) : Prop := v = none ∧ RoadKit.Fr n0 L ∧ RoadKit.Keep h h' [x] ∧ RoadKit.Exa Z h' x ST ∧ RoadKit.Fld Z h' x ST "coder" "B" (.int 0) ∧
  ∃ (t : Addr) (kb : ClassId), n0 ≤ t ∧ h.size ≤ t ∧ ¬ t = x ∧ RoadKit.Fld Z h' x ST "value" "[B" (.ref t) ∧ RoadKit.Arv Z h' t kb .byte N (bs.map Value.int) (.int 0)
/-- **new String(chars) AT A CALL, FOR THE WRITER**: a char[] of n known ints, each 0 to 255 -/
theorem backV {p : Program} {l : Launch} {e : Env} {R : Room} {s : State} {args : Array Value} {below : List Frame} {len W : Nat} {Z : State} {a0 : Array Value} {h : Heap} (hZ : Z.Warmed39 s.vm) (hw : ∀ d ∈ words, d.before a0 Z = true) {kI : Nat} (wi : (Jvm.Cond.instantiable ST kI).before a0 Z = true)
    {x b : Addr} {kC : ClassId} {cs bs : List Int32} {d v0 c0 : Value} {z N : Int32} {n n0 : Nat} (hx0 : n0 ≤ x) (hh0 : n0 ≤ h.size) (E : RoadKit.Exa Z h x ST) (V : RoadKit.Fld Z h x ST "value" "[B" v0) (C : RoadKit.Fld Z h x ST "coder" "B" c0) (K : RoadKit.Arv Z h b kC .char N (cs.map Value.int) d) (S : RoadKit.Sta Z h ST "COMPACT_STRINGS" "Z" (.int z)) (hz : ¬ z = 0)
    (hn : cs.length = n) (hN : N = Int32.ofNat n) (l0 : 0 < n) (l2 : n ≤ 4000) (hp : ∀ c ∈ cs, ¬ c < 0 ∧ ¬ (255 : Int32) < c) (hb : bs = cs.map (fun c => c.toInt8.toInt32)) (hfr : 4 ≤ R.frames) (hlo : W + 65 ≤ R.locals) :
    Back l R p e below s args (⟨"java/lang/String", "<init>", "([C)V"⟩ : MethodName) len W (fun P a => a = #[.ref x, .ref b] ∧ P.U.heap = h ∧ P.cells + 1 ≤ R.cells ∧ P.slots + n ≤ R.slots)
      (fun P _ v B => ∃ L, QV Z x N bs h n0 v B.U.heap L ∧ B.locs = P.locs ++ L ∧ B.cells = P.cells + 1 ∧ B.slots = P.slots + n) := by
  subst hn hN hb
  refine Back.mono (backArv hZ hw wi E V C K S hz (n32 (by omega)) l0 (by omega) (fun c hc => (hp c hc).2) hfr hlo) (fun P a hp => hp) (fun P a v B hp hq => ?_)
  obtain ⟨L, ⟨q1, q2, q3, q4, q5, q6, q7, ⟨kb, v1, v2⟩, q9⟩, hl, hc, hs⟩ := hq
  exact ⟨L, ⟨q1, fun y hy => by rw [q2 y hy]; exact hx0, q3, q5, q7, h.size, kb, hh0, Nat.le_refl _, Nat.ne_of_gt E.lt, q6, by rw [List.map_map]; exact v2⟩, hl, hc, hs⟩
end StrChars.Road
namespace StrChars
open Jvm Sem ClassFile Op Lib Jvm.Stand Jvm.Free.XT Jvm.Free.ALB Jvm.Free.JM Jvm.Free
open Jvm.Lib.Cold (StaticIs)
def hi8 (x : Int32) : Int32 := lo8 (x >>> ((8 : Int32) &&& 31))
/-- what StringUTF16.getChar makes of two bytes -/
def pairCh (u v : Int32) : Int32 := (((u &&& 255) <<< ((0 : Int32) &&& 31)) ||| ((v &&& 255) <<< ((8 : Int32) &&& 31))).toUInt32.toUInt16.toUInt32.toInt32
theorem lo8_and (x : Int32) : (lo8 x &&& 255).toBitVec.toNat = x.toBitVec.toNat % 256 := by
  have h : (lo8 x).toBitVec = (x.toBitVec.signExtend 8).signExtend 32 := by rw [lo8, Int8.toBitVec_toInt32, Int32.toBitVec_toInt8]
  rw [Int32.toBitVec_and, BitVec.toNat_and, h]
  have e : ((x.toBitVec.signExtend 8).signExtend 32).toNat % 256 = x.toBitVec.toNat % 256 := by
    rw [BitVec.toNat_signExtend]
    have hlt := x.toBitVec.isLt
    simp only [BitVec.toNat_setWidth, BitVec.toNat_signExtend]
    split <;> split <;> omega
  rw [← e]
  exact Nat.and_two_pow_sub_one_eq_mod _ 8
theorem pair_says {c : Int32} (h0 : ¬ c < 0) (h1 : ¬ 65535 < c) : pairCh (lo8 c) (hi8 c) = c := by
  rw [Int32.lt_iff_toInt_lt] at h0 h1
  have e0 : (0 : Int32).toInt = 0 := rfl
  have e1 : (65535 : Int32).toInt = 65535 := rfl
  have hc : c.toInt = c.toBitVec.toNat := by
    have := c.toBitVec.isLt
    have e : c.toInt = c.toBitVec.toInt := rfl
    rw [e] at h0 h1
    rw [e]
    rw [BitVec.toInt_eq_toNat_cond] at h0 h1 ⊢
    split at h0 <;> split <;> omega
  have hn : c.toBitVec.toNat < 65536 := by omega
  have a1 := lo8_and c
  have a2 : (hi8 c &&& 255).toBitVec.toNat = c.toBitVec.toNat / 256 := by
    rw [hi8, lo8_and]
    have e : ((8 : Int32) &&& 31) = 8 := by decide
    rw [e, Int32.toBitVec_shiftRight]
    have e2 : ((8 : Int32).toBitVec.smod 32) = 8#32 := by decide
    rw [e2, BitVec.sshiftRight_eq', BitVec.toNat_sshiftRight_of_msb_false (by rw [BitVec.msb_eq_false_iff_two_mul_lt]; omega)]
    show c.toBitVec.toNat >>> 8 % 256 = _
    rw [Nat.shiftRight_eq_div_pow]
    omega
  unfold pairCh
  apply Int32.toBitVec_inj.mp
  apply BitVec.eq_of_toNat_eq
  have f0 : ((0 : Int32) &&& 31) = 0 := by decide
  have f8 : ((8 : Int32) &&& 31) = 8 := by decide
  rw [f0, f8]
  have g : (((lo8 c &&& 255) <<< (0 : Int32)) ||| ((hi8 c &&& 255) <<< (8 : Int32))).toBitVec.toNat = c.toBitVec.toNat := by
    rw [Int32.toBitVec_or, Int32.toBitVec_shiftLeft, Int32.toBitVec_shiftLeft]
    have s0 : ((0 : Int32).toBitVec.smod 32) = 0#32 := by decide
    have s8 : ((8 : Int32).toBitVec.smod 32) = 8#32 := by decide
    rw [s0, s8, BitVec.toNat_or]
    simp only [BitVec.shiftLeft_eq', BitVec.toNat_shiftLeft, a1, a2]
    show (c.toBitVec.toNat % 256) <<< 0 % 2 ^ 32 ||| (c.toBitVec.toNat / 256) <<< 8 % 2 ^ 32 = _
    rw [Nat.shiftLeft_zero, Nat.mod_eq_of_lt (show c.toBitVec.toNat % 256 < 2 ^ 32 by omega), Nat.mod_eq_of_lt (show (c.toBitVec.toNat / 256) <<< 8 < 2 ^ 32 by rw [Nat.shiftLeft_eq]; omega), Nat.or_comm, ← Nat.shiftLeft_add_eq_or_of_lt (by omega), Nat.shiftLeft_eq]
    omega
  show BitVec.toNat (((((lo8 c &&& 255) <<< (0 : Int32)) ||| ((hi8 c &&& 255) <<< (8 : Int32))).toBitVec.setWidth 16).setWidth 32) = _
  rw [BitVec.toNat_setWidth, BitVec.toNat_setWidth, g]
  omega
end StrChars
namespace StrChars
open Jvm Sem ClassFile Op Lib Jvm.Stand Jvm.Free.XT Jvm.Free.ALB Jvm.Free.JM Jvm.Free
open Jvm.Lib.Cold (StaticIs)
/-- the array's cell V codes the n chars f 0 .. f (n - 1) by the coder cd, as the JDK does: coder 1 just where some char is above 255 -/
def Cod (cd : Int32) (n : Nat) (f : Nat → Int32) (V : Cell) : Prop := (cd = 0 ∧ V.slots.size = n ∧ ∀ j, j < n → V.slots[j]? = some (.int (lo8 (f j))) ∧ ¬ 255 < f j) ∨ (cd = 1 ∧ V.slots.size = 2 * n ∧ (∀ j, j < n → V.slots[2 * j]? = some (.int (lo8 (f j))) ∧ V.slots[2 * j + 1]? = some (.int (hi8 (f j)))) ∧ ∃ j, j < n ∧ 255 < f j)
/-- **x is a String of the n chars f 0 .. f (n - 1)**, Latin-1 or UTF-16; its array at t has the cell V -/
def Txt (x t : Addr) (V : Cell) (cd : Int32) (n : Nat) (f : Nat → Int32) (U : State) : Prop := Exact "java/lang/String" x U ∧ Has x "java/lang/String" "value" "[B" (.ref t) U ∧ Has x "java/lang/String" "coder" "B" (.int cd) U ∧ XT.Arr .byte t V U ∧ Cod cd n f V ∧ ∀ j, j < n → ¬ f j < 0 ∧ ¬ 65535 < f j
theorem Txt.mv {x t : Addr} {V : Cell} {cd : Int32} {n : Nat} {f : Nat → Int32} {U U' : State} (h : Txt x t V cd n f U) (hal : U.vm.Alike U'.vm) (hh : U'.heap = U.heap) : Txt x t V cd n f U' := ⟨h.1.mv hal hh, h.2.1.mv hal hh, h.2.2.1.mv hal hh, h.2.2.2.1.mv hal hh, h.2.2.2.2⟩
end StrChars
namespace StrChars.Road
open Jvm Sem ClassFile Op Lib Jvm.Stand Jvm.Free Jvm.Free.XT
open Jvm.Lib.Cold (StaticIs)
theorem consq {a : Array Value} {s : State} {c : Jvm.Cond} {L : List Jvm.Cond} (h0 : c.before a s = true) (h : ∀ w ∈ L, w.before a s = true) : ∀ w ∈ c :: L, w.before a s = true := fun w hw => (List.mem_cons.mp hw).elim (fun e => e ▸ h0) (h w)
/-- the bytes of the chars cs, low before high -/
def wideBytes : List Int32 → List Value
  | [] => []
  | c :: cs => .int (lo8 c) :: .int (hi8 c) :: wideBytes cs
theorem wide_lo (d : Value) : ∀ (cs : List Int32) (j : Nat), j < cs.length → (wideBytes cs).getD (2 * j) d = .int (lo8 (cs.getD j 0))
  | [], j, h => absurd h (Nat.not_lt_zero j)
  | c :: cs, 0, _ => rfl
  | c :: cs, j + 1, h => by
    have q := wide_lo d cs j (by simpa using h)
    rw [show 2 * (j + 1) = 2 * j + 1 + 1 from by omega]
    simpa [wideBytes] using q
theorem wide_hi (d : Value) : ∀ (cs : List Int32) (j : Nat), j < cs.length → (wideBytes cs).getD (2 * j + 1) d = .int (hi8 (cs.getD j 0))
  | [], j, h => absurd h (Nat.not_lt_zero j)
  | c :: cs, 0, _ => rfl
  | c :: cs, j + 1, h => by
    have q := wide_hi d cs j (by simpa using h)
    rw [show 2 * (j + 1) + 1 = 2 * j + 1 + 1 + 1 from by omega]
    simpa [wideBytes] using q
theorem low_at (d : Value) (cs : List Int32) (j : Nat) (h : j < cs.length) : (cs.map fun c => Value.int (lo8 c)).getD j d = .int (lo8 (cs.getD j 0)) := by
  simp [List.getD_eq_getElem?_getD, h]
/-- an array of N2 bytes vs codes the chars cs by the coder cd -/
def CodA (cs : List Int32) (cd N2 : Int32) (vs : List Value) : Prop := (cd = 0 ∧ N2 = Int32.ofNat cs.length ∧ vs = (cs.map fun c => Value.int (lo8 c)) ∧ ∀ c ∈ cs, ¬ 255 < c) ∨ (cd = 1 ∧ N2 = Int32.ofNat (2 * cs.length) ∧ vs = wideBytes cs ∧ ∃ c ∈ cs, 255 < c)
theorem CodA.cod {cs : List Int32} {cd N2 : Int32} {vs : List Value} {V : Cell} (h : CodA cs cd N2 vs) (hn : 2 * cs.length < 2 ^ 31) (hs : V.slots.size = N2.toNatClampNeg) (hv : RoadKit.Has V vs (.int 0)) : Cod cd cs.length (fun j => cs.getD j 0) V := by
  rcases h with ⟨rfl, rfl, rfl, h⟩ | ⟨rfl, rfl, rfl, c, hc, hw⟩
  · rw [n32 (by omega)] at hs
    exact Or.inl ⟨rfl, hs, fun j hj => ⟨by rw [hv j (by omega), low_at _ _ _ hj], by
      have e : cs.getD j 0 = cs[j] := by simp [List.getD_eq_getElem?_getD, hj]
      show ¬ 255 < cs.getD j 0
      rw [e]; exact h _ (List.getElem_mem _)⟩⟩
  · rw [n32 (by omega)] at hs
    obtain ⟨j, hj, rfl⟩ := List.getElem_of_mem hc
    exact Or.inr ⟨rfl, hs, fun j hj => ⟨by rw [hv _ (by omega), wide_lo _ _ _ hj], by rw [hv _ (by omega), wide_hi _ _ _ hj]⟩, j, hj, by
      have e : cs.getD j 0 = cs[j] := by simp [List.getD_eq_getElem?_getD, hj]
      show 255 < cs.getD j 0
      rw [e]; exact hw⟩
/-- an object of exactly java/lang/String, its two fields found: as the laws ask it -/
theorem strObj {Z U : State} {a0 : Array Value} {kI : Nat} (wi : (Jvm.Cond.instantiable ST kI).before a0 Z = true) (al : Z.vm.Alike U.vm) {x : Addr} {v0 c0 : Value} (E : RoadKit.Exa Z U.heap x ST) (V : RoadKit.Fld Z U.heap x ST "value" "[B" v0) (C : RoadKit.Fld Z U.heap x ST "coder" "B" c0) :
    ∃ (D : Cell) (fV fC : Field), Blank ST x D U ∧ Found ST "value" "[B" fV U ∧ Found ST "coder" "B" fC U ∧ D.slots[fV.slot]? = some v0 ∧ D.slots[fC.slot]? = some c0 ∧ RoadKit.slotOf Z ST "value" "[B" = fV.slot ∧ RoadKit.slotOf Z ST "coder" "B" = fC.slot := by
  obtain ⟨D, cfV, kV, iV, fV, hD, gV, stV, knV, obV, asV, slV⟩ := V
  obtain ⟨D', cfC, kC, iC, fC, hD', gC, stC, -, -, asC, slC⟩ := C
  cases hD.symm.trans hD'
  obtain ⟨D2, kD, e1, e2, e3, e4, e5⟩ := E
  cases hD.symm.trans e1
  obtain ⟨c2, k2, i1, i2, i3, -⟩ := Cond.instantiable_spec wi
  cases e2.symm.trans i1
  cases e3.symm.trans i2
  obtain ⟨kU, u1, u2⟩ := al.2.2 _ _ e3
  exact ⟨D, fV, fC, ⟨hD, ⟨knV, fun q hq => by rw [hq] at obV; cases obV⟩, by rw [al.findClass]; exact e2, kU, u1, by rw [u2]; exact i3, by rw [u2]; exact e5 i3⟩, ⟨SBG.found_only al ⟨cfV, kV, iV, gV⟩, stV⟩, ⟨SBG.found_only al ⟨cfC, kC, iC, gC⟩, stC⟩, slV, slC, by simp [RoadKit.slotOf, gV], by simp [RoadKit.slotOf, gC]⟩
theorem sta_is {Z U : State} (al : Z.vm.Alike U.vm) {C n d : String} {v : Value} (S : RoadKit.Sta Z U.heap C n d v) : StaticIs U C n d v := by
  obtain ⟨cfS, iS, kS, fS, st, cS, t1, t2, t3, t4, t5, t6, t7⟩ := S
  exact StaticIs.there (s := { Z with heap := U.heap }) ⟨cfS, iS, kS, fS, st, cS, t1, t2, t3, t4, t5, (fun q => by rw [q] at t6; cases t6), t7⟩ al rfl
end StrChars.Road
namespace StrChars
open Jvm Sem ClassFile Op Lib Jvm.Stand Jvm.Free.XT Jvm.Free.ALB Jvm.Free.JM Jvm.Free
open Jvm.Lib.Cold (StaticIs)
/-- what place i of a byte[]'s cell holds -/
def yv (A : Cell) (i : Nat) : Int32 := match A.slots[i]? with | some (.int x) => x | _ => 0
theorem yv_get {a : Addr} {A : Cell} {U : State} (h : XT.Arr .byte a A U) (ht : Typed .byte A) {i : Nat} (hi : i < A.slots.size) : A.slots[i]? = some (.int (yv A i)) := by
  have e := Array.getElem?_eq_getElem hi
  have f := ht i _ e
  unfold yv; rw [e]
  generalize A.slots[i] = v at f
  cases v <;> simp [fits] at f ⊢
/-- the two arrays are equal, place for place -/
def EqC (A B : Cell) : Prop := A.slots.size = B.slots.size ∧ ∀ i, i < A.slots.size → yv A i = yv B i
/-- a boolean that says whether p -/
def Says01 (q : Prop) (r : Option Value) (s u : State) : Prop := ∃ v : Int32, r = some (.int v) ∧ u.heap = s.heap ∧ ((v = 1 ∧ q) ∨ (v = 0 ∧ ¬ q))
theorem Says01.mv {q : Prop} : ∀ r (U U' V V' : State), U'.heap = U.heap → V.vm.Alike V'.vm → V'.heap = V.heap → Says01 q r U V → Says01 q r U' V' :=
  fun r U U' V V' h1 _ h2 ⟨v, a, b, c⟩ => ⟨v, a, by rw [h1, h2]; exact b, c⟩
namespace LEq
def yN : MethodName := ⟨"java/lang/StringLatin1", "equals", "([B[B)Z"⟩
abbrev yB : ByteArray := jdk_43_method_13_code
theorem d0 : decode yB 0 = .ok (.aload_n 0, 1) := by decide +kernel
theorem d1 : decode yB 1 = .ok (.arraylength, 1) := by decide +kernel
theorem d2 : decode yB 2 = .ok (.aload_n 1, 1) := by decide +kernel
theorem d3 : decode yB 3 = .ok (.arraylength, 1) := by decide +kernel
theorem d4 : decode yB 4 = .ok (.if_icmp (.ne) 30, 3) := by decide +kernel
theorem d7 : decode yB 7 = .ok (.iconst 0, 1) := by decide +kernel
theorem d8 : decode yB 8 = .ok (.istore_n 2, 1) := by decide +kernel
theorem d9 : decode yB 9 = .ok (.iload_n 2, 1) := by decide +kernel
theorem d10 : decode yB 10 = .ok (.aload_n 0, 1) := by decide +kernel
theorem d11 : decode yB 11 = .ok (.arraylength, 1) := by decide +kernel
theorem d12 : decode yB 12 = .ok (.if_icmp (.ge) 20, 3) := by decide +kernel
theorem d15 : decode yB 15 = .ok (.aload_n 0, 1) := by decide +kernel
theorem d16 : decode yB 16 = .ok (.iload_n 2, 1) := by decide +kernel
theorem d17 : decode yB 17 = .ok (.baload, 1) := by decide +kernel
theorem d18 : decode yB 18 = .ok (.aload_n 1, 1) := by decide +kernel
theorem d19 : decode yB 19 = .ok (.iload_n 2, 1) := by decide +kernel
theorem d20 : decode yB 20 = .ok (.baload, 1) := by decide +kernel
theorem d21 : decode yB 21 = .ok (.if_icmp (.eq) 5, 3) := by decide +kernel
theorem d24 : decode yB 24 = .ok (.iconst 0, 1) := by decide +kernel
theorem d25 : decode yB 25 = .ok (.ireturn, 1) := by decide +kernel
theorem d26 : decode yB 26 = .ok (.iinc 2 1, 3) := by decide +kernel
theorem d29 : decode yB 29 = .ok (.goto (-20), 3) := by decide +kernel
theorem d32 : decode yB 32 = .ok (.iconst 1, 1) := by decide +kernel
theorem d33 : decode yB 33 = .ok (.ireturn, 1) := by decide +kernel
theorem d34 : decode yB 34 = .ok (.iconst 0, 1) := by decide +kernel
theorem d35 : decode yB 35 = .ok (.ireturn, 1) := by decide +kernel
def site : List Cond := []
def tab : Cond := tabOf yN yB 3 (some .boolean) site
def P (a : Addr) (A : Cell) (b : Addr) (B : Cell) (args : Array Value) (s : State) : Prop := args = #[.ref a, .ref b] ∧ XT.Arr .byte a A s ∧ Typed .byte A ∧ XT.Arr .byte b B s ∧ Typed .byte B
/-- whether two byte[] are equal, place for place -/
theorem law (l : Launch) (a : Addr) (A : Cell) (b : Addr) (B : Cell) : Law l yN 2 2 0 0 yB 3 (some .boolean) site (P a A b B) (Says01 (EqC A B)) [] 0 0 := by
  refine Law.of_walk (plainFor_of_name (by decide +kernel)) (by decide +kernel) (by decide +kernel) (by decide) (fun _ _ h => by rw [h.1]; rfl) (fun _ U U' hal hh h => ⟨h.1, h.2.1.mv hal hh, h.2.2.1, h.2.2.2.1.mv hal hh, h.2.2.2.2⟩) (fun r U U' V V' h1 hal h2 h => Says01.mv r U U' V V' h1 hal h2 h) ?_
  intro p e s m args below meth c s₁ X0 hexec hbytes hml hret hlk hnm hown hh0 W hP
  obtain ⟨rfl, hA, tA, hB, tB⟩ := hP
  have a31 := hA.2.2.2
  have b31 := hB.2.2.2
  have hA0 := hA.mv X0.warmed.alike hh0
  have hB0 := hB.mv X0.warmed.alike hh0
  have c1 : Steps p.tables e below (s₁.setTop (entryFrame m #[.ref a, .ref b] 3)) (s₁.setTop (mkF m 0 #[.val (.ref a), .val (.ref b), .unset] [])) := entry rfl
  have c2 : Steps p.tables e below (s₁.setTop (entryFrame m #[.ref a, .ref b] 3)) (s₁.setTop (mkF m 4 #[.val (.ref a), .val (.ref b), .unset] [.int (Int32.ofNat B.slots.size), .int (Int32.ofNat A.slots.size)])) := c1.trans (by
    refine XS.aloadN X0.here hexec rfl (hb hbytes d0) rfl rfl ?_
    refine X0.alen hexec hA0 rfl rfl (hb hbytes d1) ?_
    refine XS.aloadN X0.here hexec rfl (hb hbytes d2) rfl rfl ?_
    refine X0.alen hexec hB0 rfl rfl (hb hbytes d3) ?_
    exact Steps.refl _)
  by_cases hs : A.slots.size = B.slots.size
  · have c3 : Steps p.tables e below (s₁.setTop (entryFrame m #[.ref a, .ref b] 3)) (s₁.setTop (mkF m 9 #[.val (.ref a), .val (.ref b), .val (.int 0)] [])) := c2.trans (by
      refine XS.icmpNo X0.here hexec rfl (hb hbytes d4) rfl (ii_ne_f (by rw [hs])) ?_
      refine iconstV X0.here hexec rfl 0 (hb hbytes d7) (by decide) ?_
      refine XS.istoreN X0.here hexec rfl (hb hbytes d8) rfl rfl ?_
      exact Steps.refl _)
    have loop : ∀ (r i : Nat), i + r = A.slots.size → (∀ j, j < i → yv A j = yv B j) → Steps p.tables e below (s₁.setTop (entryFrame m #[.ref a, .ref b] 3)) (s₁.setTop (mkF m 9 #[.val (.ref a), .val (.ref b), .val (.int (Int32.ofNat i))] [])) → ∃ (pc : Nat) (Ls : Array Slot) (v : Int32), (pc = 25 ∨ pc = 33) ∧ ((v = 1 ∧ EqC A B) ∨ (v = 0 ∧ ¬ EqC A B)) ∧ Steps p.tables e below (s₁.setTop (entryFrame m #[.ref a, .ref b] 3)) (s₁.setTop (mkF m pc Ls [.int v])) := by
      intro r
      induction r with
      | zero =>
        intro i hi he cl
        exact ⟨33, _, 1, Or.inr rfl, Or.inl ⟨rfl, hs, fun j hj => he j (by omega)⟩, cl.trans (by
          refine XS.iloadN X0.here hexec rfl (hb hbytes d9) rfl ?_
          refine XS.aloadN X0.here hexec rfl (hb hbytes d10) rfl rfl ?_
          refine X0.alen hexec hA0 rfl rfl (hb hbytes d11) ?_
          refine XS.icmpYes X0.here hexec rfl (pc0 := 12) rfl (hb hbytes d12) rfl (ii_ge_t (nlt32 (by omega) (by omega))) (by decide) rfl ?_
          refine iconstV X0.here hexec rfl 1 (hb hbytes d32) (by decide) ?_
          exact Steps.refl _)⟩
      | succ r ih =>
        intro i hi he cl
        have c4 : Steps p.tables e below (s₁.setTop (entryFrame m #[.ref a, .ref b] 3)) (s₁.setTop (mkF m 21 #[.val (.ref a), .val (.ref b), .val (.int (Int32.ofNat i))] [.int (yv B i), .int (yv A i)])) := cl.trans (by
          refine XS.iloadN X0.here hexec rfl (hb hbytes d9) rfl ?_
          refine XS.aloadN X0.here hexec rfl (hb hbytes d10) rfl rfl ?_
          refine X0.alen hexec hA0 rfl rfl (hb hbytes d11) ?_
          refine XS.icmpNo X0.here hexec rfl (hb hbytes d12) rfl (ii_ge_f (lt32 (by omega) (by omega))) ?_
          refine XS.aloadN X0.here hexec rfl (hb hbytes d15) rfl rfl ?_
          refine XS.iloadN X0.here hexec rfl (hb hbytes d16) rfl ?_
          refine X0.aget hexec hA0 rfl (yv_get hA tA (i := i) (by omega)) rfl rfl (hb hbytes d17) ?_
          refine XS.aloadN X0.here hexec rfl (hb hbytes d18) rfl rfl ?_
          refine XS.iloadN X0.here hexec rfl (hb hbytes d19) rfl ?_
          refine X0.aget hexec hB0 rfl (yv_get hB tB (i := i) (by omega)) rfl rfl (hb hbytes d20) ?_
          exact Steps.refl _)
        by_cases hv : yv A i = yv B i
        · have c5 : Steps p.tables e below (s₁.setTop (entryFrame m #[.ref a, .ref b] 3)) (s₁.setTop (mkF m 9 #[.val (.ref a), .val (.ref b), .val (.int (Int32.ofNat i + 1))] [])) := c4.trans (by
            refine XS.icmpYes X0.here hexec rfl (pc0 := 21) rfl (hb hbytes d21) rfl (ii_eq_t hv) (by decide) rfl ?_
            refine iincV X0.here hexec rfl 1 (hb hbytes d26) (by decide) rfl rfl ?_
            refine XS.goto X0.here hexec rfl (pc0 := 29) rfl (hb hbytes d29) (by decide) rfl ?_
            exact Steps.refl _)
          rw [succ32] at c5
          exact ih (i + 1) (by omega) (fun j hj => by
            by_cases e : j = i
            · rw [e]; exact hv
            · exact he j (by omega)) c5
        · exact ⟨25, _, 0, Or.inl rfl, Or.inr ⟨rfl, fun q => hv (q.2 i (by omega))⟩, c4.trans (by
            refine XS.icmpNo X0.here hexec rfl (hb hbytes d21) rfl (ii_eq_f hv) ?_
            refine iconstV X0.here hexec rfl 0 (hb hbytes d24) (by decide) ?_
            exact Steps.refl _)⟩
    obtain ⟨pc, Ls, v, hpc, hv, cz⟩ := loop A.slots.size 0 (by omega) (fun j hj => absurd hj (Nat.not_lt_zero j)) c3
    have nv : narrow .boolean (.int v) = .int v := by rcases hv with ⟨rfl, -⟩ | ⟨rfl, -⟩ <;> rfl
    rcases hpc with rfl | rfl
    · exact ⟨s₁, some (.int v), _, _, _, X0, rfl, rfl, rfl, (fun h => by cases h), ⟨v, rfl, hh0, hv⟩, fun fs hl => cz.trans (X0.ireturnOut hexec hret nv (Or.inr (Or.inl rfl)) (hb hbytes d25) hl)⟩
    · exact ⟨s₁, some (.int v), _, _, _, X0, rfl, rfl, rfl, (fun h => by cases h), ⟨v, rfl, hh0, hv⟩, fun fs hl => cz.trans (X0.ireturnOut hexec hret nv (Or.inr (Or.inl rfl)) (hb hbytes d33) hl)⟩
  · have c3 : Steps p.tables e below (s₁.setTop (entryFrame m #[.ref a, .ref b] 3)) (s₁.setTop (mkF m 35 #[.val (.ref a), .val (.ref b), .unset] [.int 0])) := c2.trans (by
      refine XS.icmpYes X0.here hexec rfl (pc0 := 4) rfl (hb hbytes d4) rfl (ii_ne_t (ne32 a31 b31 hs)) (by decide) rfl ?_
      refine iconstV X0.here hexec rfl 0 (hb hbytes d34) (by decide) ?_
      exact Steps.refl _)
    exact ⟨s₁, some (.int 0), _, _, _, X0, rfl, rfl, rfl, (fun h => by cases h), ⟨0, rfl, hh0, Or.inr ⟨rfl, fun q => hs q.1⟩⟩, fun fs hl => c3.trans (X0.ireturnOut hexec hret rfl (Or.inr (Or.inl rfl)) (hb hbytes d35) hl)⟩
end LEq
theorem Cod.ty {cd : Int32} {n : Nat} {f : Nat → Int32} {V : Cell} (h : Cod cd n f V) : Typed .byte V := fun i v hv => by
  have hi : i < V.slots.size := (Array.getElem?_eq_some_iff.mp hv).1
  rcases h with ⟨-, k1, k2⟩ | ⟨-, k1, k2, -⟩
  · rw [(k2 i (by omega)).1] at hv; cases hv; exact fits_lo8 _
  · rcases Nat.mod_two_eq_zero_or_one i with e | e
    · obtain ⟨j, rfl⟩ : ∃ j, i = 2 * j := ⟨i / 2, by omega⟩
      rw [(k2 j (by omega)).1] at hv; cases hv; exact fits_lo8 _
    · obtain ⟨j, rfl⟩ : ∃ j, i = 2 * j + 1 := ⟨i / 2, by omega⟩
      rw [(k2 j (by omega)).2] at hv; cases hv; exact fits_lo8 _
/-- the same text -/
def SameT (n : Nat) (f : Nat → Int32) (k : Nat) (g : Nat → Int32) : Prop := n = k ∧ ∀ j, j < n → f j = g j
theorem lo8_inj {x y : Int32} (h0 : ¬ x < 0) (h1 : ¬ 255 < x) (k0 : ¬ y < 0) (k1 : ¬ 255 < y) (h : lo8 x = lo8 y) : x = y := by
  rw [← lo8_mask h0 h1, ← lo8_mask k0 k1, h]
/-- arrays coded by one coder are equal just where the texts are -/
theorem Cod.eqv {cd : Int32} {n k : Nat} {f g : Nat → Int32} {V V' : Cell} (h : Cod cd n f V) (h' : Cod cd k g V') (hf : ∀ j, j < n → ¬ f j < 0 ∧ ¬ 65535 < f j) (hg : ∀ j, j < k → ¬ g j < 0 ∧ ¬ 65535 < g j) : EqC V V' ↔ SameT n f k g := by
  have yvv : ∀ {W : Cell} {i : Nat} {x : Int32}, W.slots[i]? = some (.int x) → yv W i = x := fun q => by unfold yv; rw [q]
  rcases h with ⟨rfl, k1, k2⟩ | ⟨rfl, k1, k2, -⟩
  · rcases h' with ⟨-, m1, m2⟩ | ⟨e, -⟩
    · constructor
      · rintro ⟨e1, e2⟩
        refine ⟨by omega, fun j hj => ?_⟩
        have q := e2 j (by omega)
        rw [yvv (k2 j hj).1, yvv (m2 j (by omega)).1] at q
        exact lo8_inj (hf j hj).1 (k2 j hj).2 (hg j (by omega)).1 (m2 j (by omega)).2 q
      · rintro ⟨rfl, e2⟩
        refine ⟨by omega, fun j hj => ?_⟩
        rw [yvv (k2 j (by omega)).1, yvv (m2 j (by omega)).1, e2 j (by omega)]
    · exact absurd e (by decide)
  · rcases h' with ⟨e, -⟩ | ⟨-, m1, m2, -⟩
    · exact absurd e (by decide)
    · constructor
      · rintro ⟨e1, e2⟩
        refine ⟨by omega, fun j hj => ?_⟩
        have q1 := e2 (2 * j) (by omega)
        have q2 := e2 (2 * j + 1) (by omega)
        rw [yvv (k2 j hj).1, yvv (m2 j (by omega)).1] at q1
        rw [yvv (k2 j hj).2, yvv (m2 j (by omega)).2] at q2
        rw [← pair_says (hf j hj).1 (hf j hj).2, ← pair_says (hg j (by omega)).1 (hg j (by omega)).2, q1, q2]
      · rintro ⟨rfl, e2⟩
        refine ⟨by omega, fun i hi => ?_⟩
        rcases Nat.mod_two_eq_zero_or_one i with e | e
        · obtain ⟨j, rfl⟩ : ∃ j, i = 2 * j := ⟨i / 2, by omega⟩
          rw [yvv (k2 j (by omega)).1, yvv (m2 j (by omega)).1, e2 j (by omega)]
        · obtain ⟨j, rfl⟩ : ∃ j, i = 2 * j + 1 := ⟨i / 2, by omega⟩
          rw [yvv (k2 j (by omega)).2, yvv (m2 j (by omega)).2, e2 j (by omega)]
/-- two codings differ: so do the texts -/
theorem Cod.dif {cd cd' : Int32} {n k : Nat} {f g : Nat → Int32} {V V' : Cell} (h : Cod cd n f V) (h' : Cod cd' k g V') (hne : ¬ cd = cd') : ¬ SameT n f k g := by
  rintro ⟨rfl, e⟩
  rcases h with ⟨rfl, -, k2⟩ | ⟨rfl, -, -, j, hj, hw⟩
  · rcases h' with ⟨rfl, -⟩ | ⟨-, -, -, j, hj, hw⟩
    · exact hne rfl
    · exact (k2 j hj).2 (by rw [e j hj]; exact hw)
  · rcases h' with ⟨-, -, m2⟩ | ⟨rfl, -⟩
    · exact (m2 j hj).2 (by rw [← e j hj]; exact hw)
    · exact hne rfl
/-- an object of exactly C is an instance of C -/
theorem cinst {p : Program} {l : Launch} {e : Env} {R : Room} {s : State} {m : MethodId} {args : Array Value} {below : List Frame} {meth : Method} {c : Code} {T : State} {locs : List Loc} {cells slots : Nat} (X : Stand p l e R s m args below meth c T locs cells slots) (hexec : p.tables.exec = Jvm.exec) {own C : String} {index : Nat} (hown : s.vm.findClass own = some m.cls) (hlink : (Cond.classLink own index C).before args s = true) {a : Addr} (hE : Exact C a T)
    {g : JFrame} (hg : g.method = m) {rest : List Value} (hstack : g.stack = .ref a :: rest) (hdg : decode c.code g.pc = .ok (.instanceof index, 3)) :
    ∃ T', Stand p l e R s m args below meth c T' locs cells slots ∧ T'.heap = T.heap ∧ ∀ target, Steps p.tables e below (T'.setTop { g with pc := g.pc + 3, stack := .int 1 :: rest }) target → Steps p.tables e below (T.setTop g) target := by
  obtain ⟨cB, h1, D, h2, h3, h4⟩ := hE
  have h1' : s.vm.findClass C = some cB := by rw [← X.warmed.alike.findClass]; exact h1
  obtain ⟨vm', X', st⟩ := X.instanceofYes hexec hown hlink h2 h4 h1' (by rw [h3]; exact Jvm.Free.SB.assignable_self _ _) hg hstack hdg
  exact ⟨_, X', rfl, st⟩
theorem cself {p : Program} {l : Launch} {e : Env} {R : Room} {s : State} {m : MethodId} {args : Array Value} {below : List Frame} {meth : Method} {c : Code} {T : State} {locs : List Loc} {cells slots : Nat} (X : Stand p l e R s m args below meth c T locs cells slots) (hexec : p.tables.exec = Jvm.exec) {own C : String} {index : Nat} (hown : s.vm.findClass own = some m.cls) (hlink : (Cond.classLink own index C).before args s = true) {a : Addr} (hE : Exact C a T)
    {g : JFrame} (hg : g.method = m) {rest : List Value} (hstack : g.stack = .ref a :: rest) (hdg : decode c.code g.pc = .ok (.checkcast index, 3)) :
    ∃ T', Stand p l e R s m args below meth c T' locs cells slots ∧ T'.heap = T.heap ∧ ∀ target, Steps p.tables e below (T'.setTop { g with pc := g.pc + 3, stack := .ref a :: rest }) target → Steps p.tables e below (T.setTop g) target := by
  obtain ⟨cB, h1, D, h2, h3, h4⟩ := hE
  have h1' : s.vm.findClass C = some cB := by rw [← X.warmed.alike.findClass]; exact h1
  obtain ⟨vm', X', st⟩ := X.checkcastYes hexec hown hlink h2 h4 h1' (by rw [h3]; exact Jvm.Free.SB.assignable_self _ _) hg hstack hdg
  exact ⟨_, X', rfl, fun t h => st t (by rw [← hstack] at h; exact h)⟩
namespace SEq
def yN : MethodName := ⟨"java/lang/String", "equals", "(Ljava/lang/Object;)Z"⟩
abbrev yB : ByteArray := jdk_42_method_66_code
theorem d0 : decode yB 0 = .ok (.aload_n 0, 1) := by decide +kernel
theorem d1 : decode yB 1 = .ok (.aload_n 1, 1) := by decide +kernel
theorem d2 : decode yB 2 = .ok (.if_acmp (.ne) 5, 3) := by decide +kernel
theorem d5 : decode yB 5 = .ok (.iconst 1, 1) := by decide +kernel
theorem d6 : decode yB 6 = .ok (.ireturn, 1) := by decide +kernel
theorem d7 : decode yB 7 = .ok (.aload_n 1, 1) := by decide +kernel
theorem d8 : decode yB 8 = .ok (.instanceof 10, 3) := by decide +kernel
theorem d11 : decode yB 11 = .ok (.ifCond (.eq) 43, 3) := by decide +kernel
theorem d14 : decode yB 14 = .ok (.aload_n 1, 1) := by decide +kernel
theorem d15 : decode yB 15 = .ok (.checkcast 10, 3) := by decide +kernel
theorem d18 : decode yB 18 = .ok (.astore_n 2, 1) := by decide +kernel
theorem d19 : decode yB 19 = .ok (.getstatic 38, 3) := by decide +kernel
theorem d22 : decode yB 22 = .ok (.ifCond (.eq) 14, 3) := by decide +kernel
theorem d25 : decode yB 25 = .ok (.aload_n 0, 1) := by decide +kernel
theorem d26 : decode yB 26 = .ok (.getfield 15, 3) := by decide +kernel
theorem d29 : decode yB 29 = .ok (.aload_n 2, 1) := by decide +kernel
theorem d30 : decode yB 30 = .ok (.getfield 15, 3) := by decide +kernel
theorem d33 : decode yB 33 = .ok (.if_icmp (.ne) 21, 3) := by decide +kernel
theorem d36 : decode yB 36 = .ok (.aload_n 0, 1) := by decide +kernel
theorem d37 : decode yB 37 = .ok (.getfield 9, 3) := by decide +kernel
theorem d40 : decode yB 40 = .ok (.aload_n 2, 1) := by decide +kernel
theorem d41 : decode yB 41 = .ok (.getfield 9, 3) := by decide +kernel
theorem d44 : decode yB 44 = .ok (.invokestatic 541, 3) := by decide +kernel
theorem d47 : decode yB 47 = .ok (.ifCond (.eq) 7, 3) := by decide +kernel
theorem d50 : decode yB 50 = .ok (.iconst 1, 1) := by decide +kernel
theorem d51 : decode yB 51 = .ok (.goto 4, 3) := by decide +kernel
theorem d54 : decode yB 54 = .ok (.iconst 0, 1) := by decide +kernel
theorem d55 : decode yB 55 = .ok (.ireturn, 1) := by decide +kernel
def site : List Cond := [.classLink "java/lang/String" 10 "java/lang/String", .fieldLink "java/lang/String" 38 "java/lang/String" "COMPACT_STRINGS" "Z", .fieldLink "java/lang/String" 15 "java/lang/String" "coder" "B", .fieldLink "java/lang/String" 9 "java/lang/String" "value" "[B", LEq.tab] ++ staticW "java/lang/String" 541 LEq.yN
def tab : Cond := tabOf yN yB 3 (some .boolean) site
def P (x t : Addr) (V : Cell) (cd : Int32) (n : Nat) (f : Nat → Int32) (y t' : Addr) (V' : Cell) (cd' : Int32) (k : Nat) (g : Nat → Int32) (z : Int32) (args : Array Value) (s : State) : Prop := args = #[.ref x, .ref y] ∧ Txt x t V cd n f s ∧ Txt y t' V' cd' k g s ∧ StaticIs s "java/lang/String" "COMPACT_STRINGS" "Z" (.int z) ∧ ¬ z = 0
/-- equals(Object) of two Strings: whether the texts are the same -/
theorem law (l : Launch) (x t : Addr) (V : Cell) (cd : Int32) (n : Nat) (f : Nat → Int32) (y t' : Addr) (V' : Cell) (cd' : Int32) (k : Nat) (g : Nat → Int32) (z : Int32) : Law l yN 2 1 1 14 yB 3 (some .boolean) site (P x t V cd n f y t' V' cd' k g z) (Says01 (SameT n f k g)) [] 0 0 := by
  refine Law.of_walk (plainFor_of_name (by decide +kernel)) (by decide +kernel) (by decide +kernel) (by decide) (fun _ _ h => by rw [h.1]; rfl) (fun _ U U' hal hh h => ⟨h.1, h.2.1.mv hal hh, h.2.2.1.mv hal hh, h.2.2.2.1.there hal hh, h.2.2.2.2⟩) (fun r U U' V V' h1 hal h2 h => Says01.mv r U U' V V' h1 hal h2 h) ?_
  intro p e s m args below meth c s₁ X0 hexec hbytes hml hret hlk hnm hown hh0 W hP
  obtain ⟨rfl, hx, hy, s1, hz⟩ := hP
  have c1 : Steps p.tables e below (s₁.setTop (entryFrame m #[.ref x, .ref y] 3)) (s₁.setTop (mkF m 2 #[.val (.ref x), .val (.ref y), .unset] [.ref y, .ref x])) := Steps.trans (entry rfl) (by
    show Steps p.tables e below (s₁.setTop (mkF m 0 #[.val (.ref x), .val (.ref y), .unset] [])) _
    refine XS.aloadN X0.here hexec rfl (hb hbytes d0) rfl rfl ?_
    refine XS.aloadN X0.here hexec rfl (hb hbytes d1) rfl rfl ?_
    exact Steps.refl _)
  by_cases hxy : x = y
  · have c2 : Steps p.tables e below (s₁.setTop (entryFrame m #[.ref x, .ref y] 3)) (s₁.setTop (mkF m 6 #[.val (.ref x), .val (.ref y), .unset] [.int 1])) := c1.trans (by
      refine acmpNo X0.here hexec rfl (hb hbytes d2) rfl rfl rfl (by simp [acmp, hxy]) ?_
      refine iconstV X0.here hexec rfl 1 (hb hbytes d5) (by decide) ?_
      exact Steps.refl _)
    subst hxy
    have ec : cd = cd' := by
      obtain ⟨D, fd, a1, a2, a3⟩ := hx.2.2.1
      obtain ⟨D', fd', b1, b2, b3⟩ := hy.2.2.1
      cases a1.symm.trans b1
      obtain ⟨q1, q2, q3, q4⟩ := a2.1
      obtain ⟨r1, r2, r3, r4⟩ := b2.1
      cases q4.symm.trans r4
      cases a3.symm.trans b3; rfl
    have et : t = t' := by
      obtain ⟨D, fd, a1, a2, a3⟩ := hx.2.1
      obtain ⟨D', fd', b1, b2, b3⟩ := hy.2.1
      cases a1.symm.trans b1
      obtain ⟨q1, q2, q3, q4⟩ := a2.1
      obtain ⟨r1, r2, r3, r4⟩ := b2.1
      cases q4.symm.trans r4
      cases a3.symm.trans b3; rfl
    subst ec et
    have ev : V = V' := by cases hx.2.2.2.1.1.symm.trans hy.2.2.2.1.1; rfl
    subst ev
    have hs : SameT n f k g := (Cod.eqv hx.2.2.2.2.1 hy.2.2.2.2.1 hx.2.2.2.2.2 hy.2.2.2.2.2).mp ⟨rfl, fun _ _ => rfl⟩
    exact ⟨s₁, some (.int 1), _, _, _, X0, rfl, rfl, rfl, (fun h => by cases h), ⟨1, rfl, hh0, Or.inl ⟨rfl, hs⟩⟩, fun fs hl => c2.trans (X0.ireturnOut hexec hret rfl (Or.inr (Or.inl rfl)) (hb hbytes d6) hl)⟩
  · have c2 : Steps p.tables e below (s₁.setTop (entryFrame m #[.ref x, .ref y] 3)) (s₁.setTop (mkF m 8 #[.val (.ref x), .val (.ref y), .unset] [.ref y])) := c1.trans (by
      refine acmpYes X0.here hexec rfl (pc0 := 2) rfl (hb hbytes d2) rfl rfl rfl (by simp [acmp, hxy]) (by decide) rfl ?_
      refine XS.aloadN X0.here hexec rfl (hb hbytes d7) rfl rfl ?_
      exact Steps.refl _)
    obtain ⟨T3, X3, q3, st3⟩ := cinst X0 hexec hown (wk W (.classLink "java/lang/String" 10 "java/lang/String")) (hy.mv X0.warmed.alike hh0).1 (g := (mkF m 8 #[.val (.ref x), .val (.ref y), .unset] [.ref y])) rfl (rest := []) rfl (hb hbytes d8)
    have hh3 := q3.trans hh0
    have c4 : Steps p.tables e below (s₁.setTop (entryFrame m #[.ref x, .ref y] 3)) (T3.setTop (mkF m 15 #[.val (.ref x), .val (.ref y), .unset] [.ref y])) := (c2.trans (st3 _ (Steps.refl _))).trans (by
      refine XS.ifNo X3.here hexec rfl (hb hbytes d11) rfl (i0_eq_f (by decide)) ?_
      refine XS.aloadN X3.here hexec rfl (hb hbytes d14) rfl rfl ?_
      exact Steps.refl _)
    obtain ⟨T5, X5, q5, st5⟩ := cself X3 hexec hown (wk W (.classLink "java/lang/String" 10 "java/lang/String")) (hy.mv X3.warmed.alike hh3).1 (g := (mkF m 15 #[.val (.ref x), .val (.ref y), .unset] [.ref y])) rfl (rest := []) rfl (hb hbytes d15)
    have hh5 := q5.trans hh3
    have c6 : Steps p.tables e below (s₁.setTop (entryFrame m #[.ref x, .ref y] 3)) (T5.setTop (mkF m 19 #[.val (.ref x), .val (.ref y), .val (.ref y)] [])) := (c4.trans (st5 _ (Steps.refl _))).trans (by
      refine XS.astoreN X5.here hexec rfl (hb hbytes d18) rfl rfl rfl ?_
      exact Steps.refl _)
    obtain ⟨T7, X7, q7, st7⟩ := X5.sget hexec hown (wk W (.fieldLink "java/lang/String" 38 "java/lang/String" "COMPACT_STRINGS" "Z")) s1 (fun _ _ h => by rw [hh5]; exact h) (g := (mkF m 19 #[.val (.ref x), .val (.ref y), .val (.ref y)] [])) rfl (hb hbytes d19)
    have hh7 := q7.trans hh5
    have c8 : Steps p.tables e below (s₁.setTop (entryFrame m #[.ref x, .ref y] 3)) (T7.setTop (mkF m 26 #[.val (.ref x), .val (.ref y), .val (.ref y)] [.ref x])) := (c6.trans (st7 _ (Steps.refl _))).trans (by
      refine XS.ifNo X7.here hexec rfl (hb hbytes d22) rfl (i0_eq_f hz) ?_
      refine XS.aloadN X7.here hexec rfl (hb hbytes d25) rfl rfl ?_
      exact Steps.refl _)
    obtain ⟨T9, X9, q9, st9⟩ := X7.hget hexec hown (wk W (.fieldLink "java/lang/String" 15 "java/lang/String" "coder" "B")) (hx.mv X7.warmed.alike hh7).2.2.1 (g := (mkF m 26 #[.val (.ref x), .val (.ref y), .val (.ref y)] [.ref x])) rfl (rest := []) rfl (hb hbytes d26)
    have hh9 := q9.trans hh7
    have c10 : Steps p.tables e below (s₁.setTop (entryFrame m #[.ref x, .ref y] 3)) (T9.setTop (mkF m 30 #[.val (.ref x), .val (.ref y), .val (.ref y)] [.ref y, .int cd])) := (c8.trans (st9 _ (Steps.refl _))).trans (by
      refine XS.aloadN X9.here hexec rfl (hb hbytes d29) rfl rfl ?_
      exact Steps.refl _)
    obtain ⟨T11, X11, q11, st11⟩ := X9.hget hexec hown (wk W (.fieldLink "java/lang/String" 15 "java/lang/String" "coder" "B")) (hy.mv X9.warmed.alike hh9).2.2.1 (g := (mkF m 30 #[.val (.ref x), .val (.ref y), .val (.ref y)] [.ref y, .int cd])) rfl (rest := [.int cd]) rfl (hb hbytes d30)
    have hh11 := q11.trans hh9
    have c12 : Steps p.tables e below (s₁.setTop (entryFrame m #[.ref x, .ref y] 3)) (T11.setTop (mkF m 33 #[.val (.ref x), .val (.ref y), .val (.ref y)] [.int cd', .int cd])) := c10.trans (st11 _ (Steps.refl _))
    by_cases hcd : cd = cd'
    · subst hcd
      have c13 : Steps p.tables e below (s₁.setTop (entryFrame m #[.ref x, .ref y] 3)) (T11.setTop (mkF m 37 #[.val (.ref x), .val (.ref y), .val (.ref y)] [.ref x])) := c12.trans (by
        refine XS.icmpNo X11.here hexec rfl (hb hbytes d33) rfl (ii_ne_f rfl) ?_
        refine XS.aloadN X11.here hexec rfl (hb hbytes d36) rfl rfl ?_
        exact Steps.refl _)
      obtain ⟨T14, X14, q14, st14⟩ := X11.hget hexec hown (wk W (.fieldLink "java/lang/String" 9 "java/lang/String" "value" "[B")) (hx.mv X11.warmed.alike hh11).2.1 (g := (mkF m 37 #[.val (.ref x), .val (.ref y), .val (.ref y)] [.ref x])) rfl (rest := []) rfl (hb hbytes d37)
      have hh14 := q14.trans hh11
      have c15 : Steps p.tables e below (s₁.setTop (entryFrame m #[.ref x, .ref y] 3)) (T14.setTop (mkF m 41 #[.val (.ref x), .val (.ref y), .val (.ref y)] [.ref y, .ref t])) := (c13.trans (st14 _ (Steps.refl _))).trans (by
        refine XS.aloadN X14.here hexec rfl (hb hbytes d40) rfl rfl ?_
        exact Steps.refl _)
      obtain ⟨T16, X16, q16, st16⟩ := X14.hget hexec hown (wk W (.fieldLink "java/lang/String" 9 "java/lang/String" "value" "[B")) (hy.mv X14.warmed.alike hh14).2.1 (g := (mkF m 41 #[.val (.ref x), .val (.ref y), .val (.ref y)] [.ref y, .ref t])) rfl (rest := [.ref t]) rfl (hb hbytes d41)
      have hh16 := q16.trans hh14
      have c17 : Steps p.tables e below (s₁.setTop (entryFrame m #[.ref x, .ref y] 3)) (T16.setTop (mkF m 44 #[.val (.ref x), .val (.ref y), .val (.ref y)] [.ref t', .ref t])) := c15.trans (st16 _ (Steps.refl _))
      obtain ⟨v18, T18, X18, E18, g18⟩ := X16.callS hexec (LEq.law l t V t' V') hown (wks W (staticW "java/lang/String" 541 LEq.yN)) (wk W LEq.tab) (W := 0) (Nat.le_of_ble_eq_true rfl) (Nat.le_of_ble_eq_true rfl) (Nat.le_refl _) (Nat.le_refl _) (g := (mkF m 44 #[.val (.ref x), .val (.ref y), .val (.ref y)] [.ref t', .ref t])) rfl (by rw [hml]; rfl) c17 (argsL := [.ref t, .ref t']) (rest := []) rfl rfl (by show 2 * 0 + 0 ≤ _; decide) (hb hbytes d44) (⟨rfl, hx.2.2.2.1.mv X16.warmed.alike hh16, hx.2.2.2.2.1.ty, hy.2.2.2.1.mv X16.warmed.alike hh16, hy.2.2.2.2.1.ty⟩)
      obtain ⟨v, rfl, q18, hv⟩ := E18
      have iff := Cod.eqv hx.2.2.2.2.1 hy.2.2.2.2.1 hx.2.2.2.2.2 hy.2.2.2.2.2
      rcases hv with ⟨rfl, he⟩ | ⟨rfl, he⟩
      · have c19 : Steps p.tables e below (s₁.setTop (entryFrame m #[.ref x, .ref y] 3)) (T18.setTop (mkF m 55 #[.val (.ref x), .val (.ref y), .val (.ref y)] [.int 1])) := Steps.trans g18 (by
          refine XS.ifNo X18.here hexec rfl (hb hbytes d47) rfl (i0_eq_f (by decide)) ?_
          refine iconstV X18.here hexec rfl 1 (hb hbytes d50) (by decide) ?_
          refine XS.goto X18.here hexec rfl (pc0 := 51) rfl (hb hbytes d51) (by decide) rfl ?_
          exact Steps.refl _)
        exact ⟨T18, some (.int 1), _, _, _, X18, rfl, rfl, rfl, (fun h => by cases h), ⟨1, rfl, q18.trans hh16, Or.inl ⟨rfl, iff.mp he⟩⟩, fun fs hl => c19.trans (X18.ireturnOut hexec hret rfl (Or.inr (Or.inl rfl)) (hb hbytes d55) hl)⟩
      · have c19 : Steps p.tables e below (s₁.setTop (entryFrame m #[.ref x, .ref y] 3)) (T18.setTop (mkF m 55 #[.val (.ref x), .val (.ref y), .val (.ref y)] [.int 0])) := Steps.trans g18 (by
          refine XS.ifYes X18.here hexec rfl (pc0 := 47) rfl (hb hbytes d47) rfl (i0_eq_t rfl) (by decide) rfl ?_
          refine iconstV X18.here hexec rfl 0 (hb hbytes d54) (by decide) ?_
          exact Steps.refl _)
        exact ⟨T18, some (.int 0), _, _, _, X18, rfl, rfl, rfl, (fun h => by cases h), ⟨0, rfl, q18.trans hh16, Or.inr ⟨rfl, fun q => he (iff.mpr q)⟩⟩, fun fs hl => c19.trans (X18.ireturnOut hexec hret rfl (Or.inr (Or.inl rfl)) (hb hbytes d55) hl)⟩
    · have c13 : Steps p.tables e below (s₁.setTop (entryFrame m #[.ref x, .ref y] 3)) (T11.setTop (mkF m 55 #[.val (.ref x), .val (.ref y), .val (.ref y)] [.int 0])) := c12.trans (by
        refine XS.icmpYes X11.here hexec rfl (pc0 := 33) rfl (hb hbytes d33) rfl (ii_ne_t hcd) (by decide) rfl ?_
        refine iconstV X11.here hexec rfl 0 (hb hbytes d54) (by decide) ?_
        exact Steps.refl _)
      exact ⟨T11, some (.int 0), _, _, _, X11, rfl, rfl, rfl, (fun h => by cases h), ⟨0, rfl, hh11, Or.inr ⟨rfl, Cod.dif hx.2.2.2.2.1 hy.2.2.2.2.1 hcd⟩⟩, fun fs hl => c13.trans (X11.ireturnOut hexec hret rfl (Or.inr (Or.inl rfl)) (hb hbytes d55) hl)⟩
theorem pays {l : Launch} {R : Room} {p : Program} {e : Env} {below : List Frame} {s : State} {sargs : Array Value} {len W : Nat} (x t : Addr) (V : Cell) (cd : Int32) (n : Nat) (f : Nat → Int32) (y t' : Addr) (V' : Cell) (cd' : Int32) (k : Nat) (g : Nat → Int32) (z : Int32) (htab : tab.before sargs s = true) (hfr : 2 ≤ R.frames) (hlo : W + 28 ≤ R.locals) :
    Back l R p e below s sargs yN len W (fun A₁ a₁ => A₁.cells + 0 ≤ R.cells ∧ A₁.slots + 0 ≤ R.slots ∧ P x t V cd n f y t' V' cd' k g z a₁ A₁.U) (fun A₁ _ v₁ B₁ => Says01 (SameT n f k g) v₁ A₁.U B₁.U ∧ B₁.locs = A₁.locs ++ [] ∧ B₁.cells = A₁.cells + 0 ∧ B₁.slots = A₁.slots + 0) :=
  (law l x t V cd n f y t' V' cd' k g z).pays htab hfr (by omega)
end SEq
end StrChars
namespace StrChars.Road
open Jvm Sem ClassFile Op Lib Jvm.Stand Jvm.Free Jvm.Free.XT
open Jvm.Lib.Cold (StaticIs)
/-- the words of String.equals(Object) -/
abbrev wordsEq : List Jvm.Cond := [.code SEq.yN SEq.yB 3 (some .boolean), .initialized ST, .classLink ST 10 ST, .fieldLink ST 38 ST "COMPACT_STRINGS" "Z", .fieldLink ST 15 ST "coder" "B", .fieldLink ST 9 ST "value" "[B", .methodLink ST 541 LEq.yN, .static LEq.yN, .code LEq.yN LEq.yB 3 (some .boolean), .initialized "java/lang/StringLatin1"]
theorem tabEq_of {a : Array Value} {s : State} (h : ∀ w ∈ wordsEq, w.before a s = true) : SEq.tab.before a s = true := by
  have hl : LEq.tab.before a s = true := unparts (wk h (.code LEq.yN LEq.yB 3 (some .boolean))) (wks h (.initialized LEq.yN.cls :: LEq.site))
  have q := consq hl h
  exact unparts (wk q (.code SEq.yN SEq.yB 3 (some .boolean))) (wks q (.initialized SEq.yN.cls :: SEq.site))
theorem movedEq {Z s : State} {a0 args : Array Value} (hZ : Z.Warmed39 s.vm) (hw : ∀ d ∈ wordsEq, d.before a0 Z = true) : ∀ d ∈ wordsEq, d.before args s = true := fun d hd => by
  have t : ∀ d ∈ wordsEq, (d.onTables && d.keepsFace) = true := by decide +kernel
  exact RoadKit.mv hZ (hw d hd) (t d hd)
/-- the road's facts of a String, as the laws ask it -/
theorem txt_of {Z U : State} {a0 : Array Value} {kI : Nat} (wi : (Jvm.Cond.instantiable ST kI).before a0 Z = true) (al : Z.vm.Alike U.vm) {x t : Addr} {kb : ClassId} {cs : List Int32} {cd N2 : Int32} {vs : List Value} (E : RoadKit.Exa Z U.heap x ST) (V : RoadKit.Fld Z U.heap x ST "value" "[B" (.ref t)) (C : RoadKit.Fld Z U.heap x ST "coder" "B" (.int cd)) (K : RoadKit.Arv Z U.heap t kb .byte N2 vs (.int 0)) (hc : CodA cs cd N2 vs) (hb : ∀ c ∈ cs, ¬ c < 0 ∧ ¬ (65535 : Int32) < c) (l2 : cs.length ≤ 4000) :
    ∃ A, Txt x t A cd cs.length (fun j => cs.getD j 0) U := by
  obtain ⟨A, K1, K2, K3, K4, K5, K6⟩ := K
  have hcod := hc.cod (by omega) K3 K5
  obtain ⟨D, fV, fC, hB, F1, F2, g1, g2, -, -⟩ := strObj wi al E V C
  exact ⟨A, ⟨_, hB.2.2.1, D, hB.1, rfl, by cases q : D.vm <;> first | rfl | exact absurd q (hB.2.1.2 _)⟩, Has.of hB F1 g1, Has.of hB F2 g2, ⟨K1.1, State.isArrayOf_alike al K1.2.1, K1.2.2, by rcases hcod with ⟨-, q, -⟩ | ⟨-, q, -⟩ <;> omega⟩, hcod, fun j hj => by
    have e : cs.getD j 0 = cs[j] := by simp [List.getD_eq_getElem?_getD, hj]
    show ¬ cs.getD j 0 < 0 ∧ ¬ 65535 < cs.getD j 0
    rw [e]; exact hb _ (List.getElem_mem _)⟩
theorem same_list (cs ds : List Int32) : SameT cs.length (fun j => cs.getD j 0) ds.length (fun j => ds.getD j 0) ↔ cs = ds := by
  constructor
  · rintro ⟨e, q⟩
    refine List.ext_getElem e fun j h1 h2 => ?_
    have := q j h1
    simpa [List.getD_eq_getElem?_getD, h1, h2] using this
  · rintro rfl
    exact ⟨rfl, fun _ _ => rfl⟩
/-- **equals(Object) OF TWO SUCH STRINGS**: 1 just where the chars are the same -/
theorem eqW {p : Program} {l : Launch} {e : Env} {R : Room} {s : State} {args : Array Value} {below : List Frame} {len W : Nat} {Z : State} {a0 : Array Value} {h : Heap} (hZ : Z.Warmed39 s.vm) (hw : ∀ d ∈ wordsEq, d.before a0 Z = true) {kI : Nat} (wi : (Jvm.Cond.instantiable ST kI).before a0 Z = true)
    {x t : Addr} {kb : ClassId} {cs : List Int32} {cd N2 : Int32} {vs : List Value} (E : RoadKit.Exa Z h x ST) (V : RoadKit.Fld Z h x ST "value" "[B" (.ref t)) (C : RoadKit.Fld Z h x ST "coder" "B" (.int cd)) (K : RoadKit.Arv Z h t kb .byte N2 vs (.int 0)) (hc : CodA cs cd N2 vs) (hb : ∀ c ∈ cs, ¬ c < 0 ∧ ¬ (65535 : Int32) < c) (l2 : cs.length ≤ 4000)
    {y t' : Addr} {kb' : ClassId} {ds : List Int32} {cd' N2' : Int32} {vs' : List Value} (E' : RoadKit.Exa Z h y ST) (V' : RoadKit.Fld Z h y ST "value" "[B" (.ref t')) (C' : RoadKit.Fld Z h y ST "coder" "B" (.int cd')) (K' : RoadKit.Arv Z h t' kb' .byte N2' vs' (.int 0)) (hc' : CodA ds cd' N2' vs') (hb' : ∀ c ∈ ds, ¬ c < 0 ∧ ¬ (65535 : Int32) < c) (l2' : ds.length ≤ 4000)
    {z : Int32} (S : RoadKit.Sta Z h ST "COMPACT_STRINGS" "Z" (.int z)) (hz : ¬ z = 0) (hfr : 2 ≤ R.frames) (hlo : W + 28 ≤ R.locals) :
    Back l R p e below s args (⟨"java/lang/String", "equals", "(Ljava/lang/Object;)Z"⟩ : MethodName) len W (fun P a => a = #[.ref x, .ref y] ∧ P.U.heap = h ∧ P.cells + 0 ≤ R.cells ∧ P.slots + 0 ≤ R.slots)
      (fun P _ v B => ∃ L, (((v = some (.int 1) ∧ cs = ds) ∨ (v = some (.int 0) ∧ ¬ cs = ds)) ∧ L = [] ∧ B.U.heap = h) ∧ B.locs = P.locs ++ L ∧ B.cells = P.cells + 0 ∧ B.slots = P.slots + 0) := by
  intro m meth c P g ig mk a X hg hsize hdg hW hn hp'
  obtain ⟨rfl, rfl, r1, r2⟩ := hp'
  have al : Z.vm.Alike P.U.vm := hZ.alike.trans X.warmed.alike
  obtain ⟨A, hx⟩ := txt_of wi al E V C K hc hb l2
  obtain ⟨A', hy⟩ := txt_of wi al E' V' C' K' hc' hb' l2'
  obtain ⟨v, B, X', ⟨⟨w, hv, hh, hq⟩, hl, hk, hs⟩, st⟩ := SEq.pays x t A cd cs.length (fun j => cs.getD j 0) y t' A' cd' ds.length (fun j => ds.getD j 0) z (tabEq_of (movedEq hZ hw)) hfr hlo m meth c P g ig mk _ X hg hsize hdg hW hn ⟨r1, r2, rfl, hx, hy, sta_is al S, hz⟩
  refine ⟨v, B, X', ⟨[], ⟨?_, rfl, hh⟩, hl, hk, hs⟩, st⟩
  rcases hq with ⟨rfl, q⟩ | ⟨rfl, q⟩
  · exact Or.inl ⟨hv, (same_list cs ds).mp q⟩
  · exact Or.inr ⟨hv, fun e => q ((same_list cs ds).mpr e)⟩
end StrChars.Road
namespace StrChars.Road
open Jvm Sem ClassFile Op Lib Jvm.Stand Jvm.Free Jvm.Free.XT
open Jvm.Lib.Cold (StaticIs)
/-- what backV says of its String, as the contracts of this text ask it: cs's low bytes, coder 0 -/
theorem codOf {cs : List Int32} {n : Nat} (hn : cs.length = n) (hb : ∀ c ∈ cs, ¬ 255 < c) : CodA cs 0 (Int32.ofNat n) ((cs.map lo8).map Value.int) := Or.inl ⟨rfl, by rw [hn], by simp [List.map_map, Function.comp_def], hb⟩
end StrChars.Road
end Jvm.Pilot.@@N@@
namespace Jvm.Pilot.@@N@@
open Jvm Jvm.ClassFile Sem Op Lib Jvm.Free Jvm.Stand Jvm.LawKit Jvm.RoadKit Bundle Jvm.Pilot.@@N@@.Jvm.D
/-- the run from S on comes to an end of which G holds -/
def Go (p : Program) (e : Env) (below : List Frame) (G : Outcome → State → Prop) (S : State) : Prop := ∃ s₂ o, Steps p.tables e below S s₂ ∧ s₂.status = .running ∧ Ended s₂ below o ∧ G o s₂
theorem Go.mono {p : Program} {e : Env} {below : List Frame} {G : Outcome → State → Prop} {S S' : State} (st : ∀ t, Steps p.tables e below S' t → Steps p.tables e below S t) (h : Go p e below G S') : Go p e below G S := by
  obtain ⟨a, b, c, d⟩ := h; exact ⟨a, b, st _ c, d⟩
/-- where a walk stands: the method's own facts, the heap, and an invariant I over the tables' state and the heap -/
def Wk (p : Program) (l : Launch) (e : Env) (R : Room) (m : MethodId) (args : Array Value) (below : List Frame) (meth : Method) (c : Code) (own : String) (bytes : ByteArray) (maxL : Nat) (Z : State) (I : State → Heap → Prop) (s' T : State) (locs : List Loc) (cells slots : Nat) (h : Heap) : Prop :=
  Stand p l e R s' m args below meth c T locs cells slots ∧ T.heap = h ∧ Z.Warmed39 s'.vm ∧ s'.vm.findClass own = some m.cls ∧ p.tables.exec = Jvm.exec ∧ c.code = bytes ∧ c.maxLocals = maxL ∧ I s' h
section Walk
variable {p : Program} {l : Launch} {e : Env} {R : Room} {m : MethodId} {args : Array Value} {below : List Frame} {meth : Method} {c : Code} {own : String} {bytes : ByteArray} {maxL : Nat} {Z : State} {I : State → Heap → Prop} {s' T : State} {locs : List Loc} {cells slots : Nat} {h : Heap} {G : Outcome → State → Prop} {pc : Nat} {Ls : Array Slot} {S : List Value} {a0 : Array Value}
theorem Wk.st (D : Wk p l e R m args below meth c own bytes maxL Z I s' T locs cells slots h) : Stand p l e R s' m args below meth c T locs cells slots := D.1
theorem Wk.eq (D : Wk p l e R m args below meth c own bytes maxL Z I s' T locs cells slots h) : T.heap = h := D.2.1
theorem Wk.wm (D : Wk p l e R m args below meth c own bytes maxL Z I s' T locs cells slots h) : Z.Warmed39 s'.vm := D.2.2.1
theorem Wk.ow (D : Wk p l e R m args below meth c own bytes maxL Z I s' T locs cells slots h) : s'.vm.findClass own = some m.cls := D.2.2.2.1
theorem Wk.ex (D : Wk p l e R m args below meth c own bytes maxL Z I s' T locs cells slots h) : p.tables.exec = Jvm.exec := D.2.2.2.2.1
theorem Wk.cb (D : Wk p l e R m args below meth c own bytes maxL Z I s' T locs cells slots h) : c.code = bytes := D.2.2.2.2.2.1
theorem Wk.ml (D : Wk p l e R m args below meth c own bytes maxL Z I s' T locs cells slots h) : c.maxLocals = maxL := D.2.2.2.2.2.2.1
theorem Wk.iv (D : Wk p l e R m args below meth c own bytes maxL Z I s' T locs cells slots h) : I s' h := D.2.2.2.2.2.2.2
theorem Wk.more (D : Wk p l e R m args below meth c own bytes maxL Z I s' T locs cells slots h) {k n : Nat} (hc : cells ≤ k) (hs : slots ≤ n) : Wk p l e R m args below meth c own bytes maxL Z I s' T locs k n h := ⟨D.1.more hc hs, D.2⟩
theorem Wk.mk' {T' : State} {locs' : List Loc} {cells' slots' : Nat} {h' : Heap} (D : Wk p l e R m args below meth c own bytes maxL Z I s' T locs cells slots h) (X : Stand p l e R s' m args below meth c T' locs' cells' slots') (q : T'.heap = h') (i : I s' h') : Wk p l e R m args below meth c own bytes maxL Z I s' T' locs' cells' slots' h' := ⟨X, q, D.wm, D.ow, D.ex, D.cb, D.ml, i⟩
theorem g_aloadN (D : Wk p l e R m args below meth c own bytes maxL Z I s' T locs cells slots h) (pc' : Nat) {k : Fin 4} {v : Value} (hd : decode bytes pc = .ok (.aload_n k, 1)) (hl : Ls[k.val]? = some (.val v)) (hv : v.isRef = true) (hp : pc + 1 = pc') (hr : Go p e below G (T.setTop (mkF m pc' Ls (v :: S)))) : Go p e below G (T.setTop (mkF m pc Ls S)) := by
  subst hp; exact Go.mono (fun t k => XS.aloadN D.st.here D.ex rfl (hb D.cb hd) hl hv k) hr
theorem g_aload (D : Wk p l e R m args below meth c own bytes maxL Z I s' T locs cells slots h) (pc' : Nat) {k : Nat} {v : Value} (hd : decode bytes pc = .ok (.aload k, 2)) (hl : Ls[k]? = some (.val v)) (hv : v.isRef = true) (hp : pc + 2 = pc') (hr : Go p e below G (T.setTop (mkF m pc' Ls (v :: S)))) : Go p e below G (T.setTop (mkF m pc Ls S)) := by
  subst hp; exact Go.mono (fun t k => XS.aload D.st.here D.ex rfl (hb D.cb hd) hl hv k) hr
theorem g_iloadN (D : Wk p l e R m args below meth c own bytes maxL Z I s' T locs cells slots h) (pc' : Nat) {k : Fin 4} {v : Int32} (hd : decode bytes pc = .ok (.iload_n k, 1)) (hl : Ls[k.val]? = some (.val (.int v))) (hp : pc + 1 = pc') (hr : Go p e below G (T.setTop (mkF m pc' Ls (.int v :: S)))) : Go p e below G (T.setTop (mkF m pc Ls S)) := by
  subst hp; exact Go.mono (fun t k => XS.iloadN D.st.here D.ex rfl (hb D.cb hd) hl k) hr
theorem g_iload (D : Wk p l e R m args below meth c own bytes maxL Z I s' T locs cells slots h) (pc' : Nat) {k : Nat} {v : Int32} (hd : decode bytes pc = .ok (.iload k, 2)) (hl : Ls[k]? = some (.val (.int v))) (hp : pc + 2 = pc') (hr : Go p e below G (T.setTop (mkF m pc' Ls (.int v :: S)))) : Go p e below G (T.setTop (mkF m pc Ls S)) := by
  subst hp; exact Go.mono (fun t k => XS.iload D.st.here D.ex rfl (hb D.cb hd) hl k) hr
theorem g_lloadN (D : Wk p l e R m args below meth c own bytes maxL Z I s' T locs cells slots h) (pc' : Nat) {k : Fin 4} {v : Int64} (hd : decode bytes pc = .ok (.lload_n k, 1)) (hl : Ls[k.val]? = some (.val (.long v))) (hp : pc + 1 = pc') (hr : Go p e below G (T.setTop (mkF m pc' Ls (.long v :: S)))) : Go p e below G (T.setTop (mkF m pc Ls S)) := by
  subst hp; exact Go.mono (fun t k => XS.lloadN D.st.here D.ex rfl (hb D.cb hd) hl k) hr
theorem g_lload (D : Wk p l e R m args below meth c own bytes maxL Z I s' T locs cells slots h) (pc' : Nat) {k : Nat} {v : Int64} (hd : decode bytes pc = .ok (.lload k, 2)) (hl : Ls[k]? = some (.val (.long v))) (hp : pc + 2 = pc') (hr : Go p e below G (T.setTop (mkF m pc' Ls (.long v :: S)))) : Go p e below G (T.setTop (mkF m pc Ls S)) := by
  subst hp; exact Go.mono (fun t k => XS.lload D.st.here D.ex rfl (hb D.cb hd) hl k) hr
theorem g_istoreN (D : Wk p l e R m args below meth c own bytes maxL Z I s' T locs cells slots h) (pc' : Nat) {k : Fin 4} {x : Int32} (l' : Array Slot) (hd : decode bytes pc = .ok (.istore_n k, 1)) (hl : storeLocals Ls k.val (.int x) = some l') (hp : pc + 1 = pc') (hr : Go p e below G (T.setTop (mkF m pc' l' S))) : Go p e below G (T.setTop (mkF m pc Ls (.int x :: S))) := by
  subst hp; exact Go.mono (fun t k => XS.istoreN D.st.here D.ex rfl (hb D.cb hd) rfl hl k) hr
theorem g_istore (D : Wk p l e R m args below meth c own bytes maxL Z I s' T locs cells slots h) (pc' : Nat) {k : Nat} {x : Int32} (l' : Array Slot) (hd : decode bytes pc = .ok (.istore k, 2)) (hl : storeLocals Ls k (.int x) = some l') (hp : pc + 2 = pc') (hr : Go p e below G (T.setTop (mkF m pc' l' S))) : Go p e below G (T.setTop (mkF m pc Ls (.int x :: S))) := by
  subst hp; exact Go.mono (fun t k => XS.istore D.st.here D.ex rfl (hb D.cb hd) rfl hl k) hr
theorem g_lstoreN (D : Wk p l e R m args below meth c own bytes maxL Z I s' T locs cells slots h) (pc' : Nat) {k : Fin 4} {x : Int64} (l' : Array Slot) (hd : decode bytes pc = .ok (.lstore_n k, 1)) (hl : storeLocals Ls k.val (.long x) = some l') (hp : pc + 1 = pc') (hr : Go p e below G (T.setTop (mkF m pc' l' S))) : Go p e below G (T.setTop (mkF m pc Ls (.long x :: S))) := by
  subst hp; exact Go.mono (fun t k => XS.lstoreN D.st.here D.ex rfl (hb D.cb hd) rfl hl k) hr
theorem g_lstore (D : Wk p l e R m args below meth c own bytes maxL Z I s' T locs cells slots h) (pc' : Nat) {k : Nat} {x : Int64} (l' : Array Slot) (hd : decode bytes pc = .ok (.lstore k, 2)) (hl : storeLocals Ls k (.long x) = some l') (hp : pc + 2 = pc') (hr : Go p e below G (T.setTop (mkF m pc' l' S))) : Go p e below G (T.setTop (mkF m pc Ls (.long x :: S))) := by
  subst hp; exact Go.mono (fun t k => XS.lstore D.st.here D.ex rfl (hb D.cb hd) rfl hl k) hr
theorem g_astoreN (D : Wk p l e R m args below meth c own bytes maxL Z I s' T locs cells slots h) (pc' : Nat) {k : Fin 4} {x : Value} (l' : Array Slot) (hd : decode bytes pc = .ok (.astore_n k, 1)) (hv : x.isRef = true) (hl : storeLocals Ls k.val x = some l') (hp : pc + 1 = pc') (hr : Go p e below G (T.setTop (mkF m pc' l' S))) : Go p e below G (T.setTop (mkF m pc Ls (x :: S))) := by
  subst hp; exact Go.mono (fun t k => XS.astoreN D.st.here D.ex rfl (hb D.cb hd) rfl hv hl k) hr
theorem g_astore (D : Wk p l e R m args below meth c own bytes maxL Z I s' T locs cells slots h) (pc' : Nat) {k : Nat} {x : Value} (l' : Array Slot) (hd : decode bytes pc = .ok (.astore k, 2)) (hv : x.isRef = true) (hl : storeLocals Ls k x = some l') (hp : pc + 2 = pc') (hr : Go p e below G (T.setTop (mkF m pc' l' S))) : Go p e below G (T.setTop (mkF m pc Ls (x :: S))) := by
  subst hp; exact Go.mono (fun t k => XS.astore D.st.here D.ex rfl (hb D.cb hd) rfl hv hl k) hr
theorem g_iconst (D : Wk p l e R m args below meth c own bytes maxL Z I s' T locs cells slots h) (pc' : Nat) {i : Int} (v : Int32) (hd : decode bytes pc = .ok (.iconst i, 1)) (hv : Int32.ofInt i = v) (hp : pc + 1 = pc') (hr : Go p e below G (T.setTop (mkF m pc' Ls (.int v :: S)))) : Go p e below G (T.setTop (mkF m pc Ls S)) := by
  subst hp; subst hv; exact Go.mono (fun t k => XS.iconst D.st.here D.ex rfl (hb D.cb hd) k) hr
theorem g_bipush (D : Wk p l e R m args below meth c own bytes maxL Z I s' T locs cells slots h) (pc' : Nat) {i : Int} (v : Int32) (hd : decode bytes pc = .ok (.bipush i, 2)) (hv : (Int8.ofInt i).toInt32 = v) (hp : pc + 2 = pc') (hr : Go p e below G (T.setTop (mkF m pc' Ls (.int v :: S)))) : Go p e below G (T.setTop (mkF m pc Ls S)) := by
  subst hp; subst hv; exact Go.mono (fun t k => XS.bipush D.st.here D.ex rfl (hb D.cb hd) k) hr
theorem g_sipush (D : Wk p l e R m args below meth c own bytes maxL Z I s' T locs cells slots h) (pc' : Nat) {i : Int} (v : Int32) (hd : decode bytes pc = .ok (.sipush i, 3)) (hv : (Int16.ofInt i).toInt32 = v) (hp : pc + 3 = pc') (hr : Go p e below G (T.setTop (mkF m pc' Ls (.int v :: S)))) : Go p e below G (T.setTop (mkF m pc Ls S)) := by
  subst hp; subst hv; exact Go.mono (fun t k => XS.sipush D.st.here D.ex rfl (hb D.cb hd) k) hr
theorem g_lconst (D : Wk p l e R m args below meth c own bytes maxL Z I s' T locs cells slots h) (pc' : Nat) {i : Fin 2} (v : Int64) (hd : decode bytes pc = .ok (.lconst i, 1)) (hv : Int64.ofNat i = v) (hp : pc + 1 = pc') (hr : Go p e below G (T.setTop (mkF m pc' Ls (.long v :: S)))) : Go p e below G (T.setTop (mkF m pc Ls S)) := by
  subst hp; subst hv; exact Go.mono (fun t k => XS.lconst D.st.here D.ex rfl (hb D.cb hd) k) hr
theorem g_aconst (D : Wk p l e R m args below meth c own bytes maxL Z I s' T locs cells slots h) (pc' : Nat)  (hd : decode bytes pc = .ok (.aconst_null, 1)) (hp : pc + 1 = pc') (hr : Go p e below G (T.setTop (mkF m pc' Ls (.null :: S)))) : Go p e below G (T.setTop (mkF m pc Ls S)) := by
  subst hp; exact Go.mono (fun t k => XS.aconstNull D.st.here D.ex rfl (hb D.cb hd)  k) hr
theorem g_iadd (D : Wk p l e R m args below meth c own bytes maxL Z I s' T locs cells slots h) (pc' : Nat) {x y : Int32} (hd : decode bytes pc = .ok (.iadd, 1)) (hp : pc + 1 = pc') (hr : Go p e below G (T.setTop (mkF m pc' Ls (.int (x + y) :: S)))) : Go p e below G (T.setTop (mkF m pc Ls (.int y :: .int x :: S))) := by
  subst hp; exact Go.mono (fun t k => XS.iadd D.st.here D.ex rfl (hb D.cb hd) rfl k) hr
theorem g_isub (D : Wk p l e R m args below meth c own bytes maxL Z I s' T locs cells slots h) (pc' : Nat) {x y : Int32} (hd : decode bytes pc = .ok (.isub, 1)) (hp : pc + 1 = pc') (hr : Go p e below G (T.setTop (mkF m pc' Ls (.int (x - y) :: S)))) : Go p e below G (T.setTop (mkF m pc Ls (.int y :: .int x :: S))) := by
  subst hp; exact Go.mono (fun t k => XS.isub D.st.here D.ex rfl (hb D.cb hd) rfl k) hr
theorem g_imul (D : Wk p l e R m args below meth c own bytes maxL Z I s' T locs cells slots h) (pc' : Nat) {x y : Int32} (hd : decode bytes pc = .ok (.imul, 1)) (hp : pc + 1 = pc') (hr : Go p e below G (T.setTop (mkF m pc' Ls (.int (x * y) :: S)))) : Go p e below G (T.setTop (mkF m pc Ls (.int y :: .int x :: S))) := by
  subst hp; exact Go.mono (fun t k => XS.imul D.st.here D.ex rfl (hb D.cb hd) rfl k) hr
theorem g_iand (D : Wk p l e R m args below meth c own bytes maxL Z I s' T locs cells slots h) (pc' : Nat) {x y : Int32} (hd : decode bytes pc = .ok (.iand, 1)) (hp : pc + 1 = pc') (hr : Go p e below G (T.setTop (mkF m pc' Ls (.int (x &&& y) :: S)))) : Go p e below G (T.setTop (mkF m pc Ls (.int y :: .int x :: S))) := by
  subst hp; exact Go.mono (fun t k => XS.iand D.st.here D.ex rfl (hb D.cb hd) rfl k) hr
theorem g_ior (D : Wk p l e R m args below meth c own bytes maxL Z I s' T locs cells slots h) (pc' : Nat) {x y : Int32} (hd : decode bytes pc = .ok (.ior, 1)) (hp : pc + 1 = pc') (hr : Go p e below G (T.setTop (mkF m pc' Ls (.int (x ||| y) :: S)))) : Go p e below G (T.setTop (mkF m pc Ls (.int y :: .int x :: S))) := by
  subst hp; exact Go.mono (fun t k => XS.ior D.st.here D.ex rfl (hb D.cb hd) rfl k) hr
theorem g_ixor (D : Wk p l e R m args below meth c own bytes maxL Z I s' T locs cells slots h) (pc' : Nat) {x y : Int32} (hd : decode bytes pc = .ok (.ixor, 1)) (hp : pc + 1 = pc') (hr : Go p e below G (T.setTop (mkF m pc' Ls (.int (x ^^^ y) :: S)))) : Go p e below G (T.setTop (mkF m pc Ls (.int y :: .int x :: S))) := by
  subst hp; exact Go.mono (fun t k => XS.ixor D.st.here D.ex rfl (hb D.cb hd) rfl k) hr
theorem g_ishl (D : Wk p l e R m args below meth c own bytes maxL Z I s' T locs cells slots h) (pc' : Nat) {x y : Int32} (hd : decode bytes pc = .ok (.ishl, 1)) (hp : pc + 1 = pc') (hr : Go p e below G (T.setTop (mkF m pc' Ls (.int (x <<< (y &&& 31)) :: S)))) : Go p e below G (T.setTop (mkF m pc Ls (.int y :: .int x :: S))) := by
  subst hp; exact Go.mono (fun t k => XS.ishl D.st.here D.ex rfl (hb D.cb hd) rfl k) hr
theorem g_ishr (D : Wk p l e R m args below meth c own bytes maxL Z I s' T locs cells slots h) (pc' : Nat) {x y : Int32} (hd : decode bytes pc = .ok (.ishr, 1)) (hp : pc + 1 = pc') (hr : Go p e below G (T.setTop (mkF m pc' Ls (.int (x >>> (y &&& 31)) :: S)))) : Go p e below G (T.setTop (mkF m pc Ls (.int y :: .int x :: S))) := by
  subst hp; exact Go.mono (fun t k => XS.ishr D.st.here D.ex rfl (hb D.cb hd) rfl k) hr
theorem g_iushr (D : Wk p l e R m args below meth c own bytes maxL Z I s' T locs cells slots h) (pc' : Nat) {x y : Int32} (hd : decode bytes pc = .ok (.iushr, 1)) (hp : pc + 1 = pc') (hr : Go p e below G (T.setTop (mkF m pc' Ls (.int (XT.ushr x y) :: S)))) : Go p e below G (T.setTop (mkF m pc Ls (.int y :: .int x :: S))) := by
  subst hp; exact Go.mono (fun t k => XT.iushr D.st.here D.ex rfl (hb D.cb hd) rfl k) hr
theorem g_ladd (D : Wk p l e R m args below meth c own bytes maxL Z I s' T locs cells slots h) (pc' : Nat) {x y : Int64} (hd : decode bytes pc = .ok (.ladd, 1)) (hp : pc + 1 = pc') (hr : Go p e below G (T.setTop (mkF m pc' Ls (.long (x + y) :: S)))) : Go p e below G (T.setTop (mkF m pc Ls (.long y :: .long x :: S))) := by
  subst hp; exact Go.mono (fun t k => XS.ladd D.st.here D.ex rfl (hb D.cb hd) rfl k) hr
theorem g_lsub (D : Wk p l e R m args below meth c own bytes maxL Z I s' T locs cells slots h) (pc' : Nat) {x y : Int64} (hd : decode bytes pc = .ok (.lsub, 1)) (hp : pc + 1 = pc') (hr : Go p e below G (T.setTop (mkF m pc' Ls (.long (x - y) :: S)))) : Go p e below G (T.setTop (mkF m pc Ls (.long y :: .long x :: S))) := by
  subst hp; exact Go.mono (fun t k => XS.lsub D.st.here D.ex rfl (hb D.cb hd) rfl k) hr
theorem g_lmul (D : Wk p l e R m args below meth c own bytes maxL Z I s' T locs cells slots h) (pc' : Nat) {x y : Int64} (hd : decode bytes pc = .ok (.lmul, 1)) (hp : pc + 1 = pc') (hr : Go p e below G (T.setTop (mkF m pc' Ls (.long (x * y) :: S)))) : Go p e below G (T.setTop (mkF m pc Ls (.long y :: .long x :: S))) := by
  subst hp; exact Go.mono (fun t k => XS.lmul D.st.here D.ex rfl (hb D.cb hd) rfl k) hr
theorem g_land (D : Wk p l e R m args below meth c own bytes maxL Z I s' T locs cells slots h) (pc' : Nat) {x y : Int64} (hd : decode bytes pc = .ok (.land, 1)) (hp : pc + 1 = pc') (hr : Go p e below G (T.setTop (mkF m pc' Ls (.long (x &&& y) :: S)))) : Go p e below G (T.setTop (mkF m pc Ls (.long y :: .long x :: S))) := by
  subst hp; exact Go.mono (fun t k => XS.land D.st.here D.ex rfl (hb D.cb hd) rfl k) hr
theorem g_lor (D : Wk p l e R m args below meth c own bytes maxL Z I s' T locs cells slots h) (pc' : Nat) {x y : Int64} (hd : decode bytes pc = .ok (.lor, 1)) (hp : pc + 1 = pc') (hr : Go p e below G (T.setTop (mkF m pc' Ls (.long (x ||| y) :: S)))) : Go p e below G (T.setTop (mkF m pc Ls (.long y :: .long x :: S))) := by
  subst hp; exact Go.mono (fun t k => XS.lor D.st.here D.ex rfl (hb D.cb hd) rfl k) hr
theorem g_lxor (D : Wk p l e R m args below meth c own bytes maxL Z I s' T locs cells slots h) (pc' : Nat) {x y : Int64} (hd : decode bytes pc = .ok (.lxor, 1)) (hp : pc + 1 = pc') (hr : Go p e below G (T.setTop (mkF m pc' Ls (.long (x ^^^ y) :: S)))) : Go p e below G (T.setTop (mkF m pc Ls (.long y :: .long x :: S))) := by
  subst hp; exact Go.mono (fun t k => XS.lxor D.st.here D.ex rfl (hb D.cb hd) rfl k) hr
theorem g_lushr (D : Wk p l e R m args below meth c own bytes maxL Z I s' T locs cells slots h) (pc' : Nat) {x : Int64} {y : Int32} (hd : decode bytes pc = .ok (.lushr, 1)) (hp : pc + 1 = pc') (hr : Go p e below G (T.setTop (mkF m pc' Ls (.long (XT.ushrL x y) :: S)))) : Go p e below G (T.setTop (mkF m pc Ls (.int y :: .long x :: S))) := by
  subst hp; exact Go.mono (fun t k => XT.lushr D.st.here D.ex rfl (hb D.cb hd) rfl k) hr
theorem g_lshl (D : Wk p l e R m args below meth c own bytes maxL Z I s' T locs cells slots h) (pc' : Nat) {x : Int64} {y : Int32} (hd : decode bytes pc = .ok (.lshl, 1)) (hp : pc + 1 = pc') (hr : Go p e below G (T.setTop (mkF m pc' Ls (.long (x <<< (y.toInt64 &&& 63)) :: S)))) : Go p e below G (T.setTop (mkF m pc Ls (.int y :: .long x :: S))) := by
  subst hp; exact Go.mono (fun t k => XT.lshl D.st.here D.ex rfl (hb D.cb hd) rfl k) hr
theorem g_lcmp (D : Wk p l e R m args below meth c own bytes maxL Z I s' T locs cells slots h) (pc' : Nat) {x y : Int64} (hd : decode bytes pc = .ok (.lcmp, 1)) (hp : pc + 1 = pc') (hr : Go p e below G (T.setTop (mkF m pc' Ls (.int (XT.cmpL x y) :: S)))) : Go p e below G (T.setTop (mkF m pc Ls (.long y :: .long x :: S))) := by
  subst hp; exact Go.mono (fun t k => XT.lcmp D.st.here D.ex rfl (hb D.cb hd) rfl k) hr
theorem g_idiv (D : Wk p l e R m args below meth c own bytes maxL Z I s' T locs cells slots h) (pc' : Nat) {x y : Int32} (hd : decode bytes pc = .ok (.idiv, 1)) (hy : y ≠ 0) (hp : pc + 1 = pc') (hr : Go p e below G (T.setTop (mkF m pc' Ls (.int (x / y) :: S)))) : Go p e below G (T.setTop (mkF m pc Ls (.int y :: .int x :: S))) := by
  subst hp; exact Go.mono (fun t k => XS.idiv D.st.here D.ex rfl (hb D.cb hd) rfl hy k) hr
theorem g_irem (D : Wk p l e R m args below meth c own bytes maxL Z I s' T locs cells slots h) (pc' : Nat) {x y : Int32} (hd : decode bytes pc = .ok (.irem, 1)) (hy : y ≠ 0) (hp : pc + 1 = pc') (hr : Go p e below G (T.setTop (mkF m pc' Ls (.int (x % y) :: S)))) : Go p e below G (T.setTop (mkF m pc Ls (.int y :: .int x :: S))) := by
  subst hp; exact Go.mono (fun t k => iremM D.st D.ex rfl (hb D.cb hd) rfl hy k) hr
theorem g_ineg (D : Wk p l e R m args below meth c own bytes maxL Z I s' T locs cells slots h) (pc' : Nat) {x : Int32} (hd : decode bytes pc = .ok (.ineg, 1)) (hp : pc + 1 = pc') (hr : Go p e below G (T.setTop (mkF m pc' Ls (.int (-x) :: S)))) : Go p e below G (T.setTop (mkF m pc Ls (.int x :: S))) := by
  subst hp; exact Go.mono (fun t k => XS.ineg D.st.here D.ex rfl (hb D.cb hd) rfl k) hr
theorem g_i2l (D : Wk p l e R m args below meth c own bytes maxL Z I s' T locs cells slots h) (pc' : Nat) {x : Int32} (hd : decode bytes pc = .ok (.i2l, 1)) (hp : pc + 1 = pc') (hr : Go p e below G (T.setTop (mkF m pc' Ls (.long (x.toInt64) :: S)))) : Go p e below G (T.setTop (mkF m pc Ls (.int x :: S))) := by
  subst hp; exact Go.mono (fun t k => XS.i2l D.st.here D.ex rfl (hb D.cb hd) rfl k) hr
theorem g_l2i (D : Wk p l e R m args below meth c own bytes maxL Z I s' T locs cells slots h) (pc' : Nat) {x : Int64} (hd : decode bytes pc = .ok (.l2i, 1)) (hp : pc + 1 = pc') (hr : Go p e below G (T.setTop (mkF m pc' Ls (.int (x.toInt32) :: S)))) : Go p e below G (T.setTop (mkF m pc Ls (.long x :: S))) := by
  subst hp; exact Go.mono (fun t k => XS.l2i D.st.here D.ex rfl (hb D.cb hd) rfl k) hr
theorem g_i2b (D : Wk p l e R m args below meth c own bytes maxL Z I s' T locs cells slots h) (pc' : Nat) {x : Int32} (hd : decode bytes pc = .ok (.i2b, 1)) (hp : pc + 1 = pc') (hr : Go p e below G (T.setTop (mkF m pc' Ls (.int (x.toInt8.toInt32) :: S)))) : Go p e below G (T.setTop (mkF m pc Ls (.int x :: S))) := by
  subst hp; exact Go.mono (fun t k => XS.i2b D.st.here D.ex rfl (hb D.cb hd) rfl k) hr
theorem g_i2c (D : Wk p l e R m args below meth c own bytes maxL Z I s' T locs cells slots h) (pc' : Nat) {x : Int32} (hd : decode bytes pc = .ok (.i2c, 1)) (hp : pc + 1 = pc') (hr : Go p e below G (T.setTop (mkF m pc' Ls (.int (x.toUInt32.toUInt16.toUInt32.toInt32) :: S)))) : Go p e below G (T.setTop (mkF m pc Ls (.int x :: S))) := by
  subst hp; exact Go.mono (fun t k => XS.i2c D.st.here D.ex rfl (hb D.cb hd) rfl k) hr
theorem g_i2s (D : Wk p l e R m args below meth c own bytes maxL Z I s' T locs cells slots h) (pc' : Nat) {x : Int32} (hd : decode bytes pc = .ok (.i2s, 1)) (hp : pc + 1 = pc') (hr : Go p e below G (T.setTop (mkF m pc' Ls (.int (x.toInt16.toInt32) :: S)))) : Go p e below G (T.setTop (mkF m pc Ls (.int x :: S))) := by
  subst hp; exact Go.mono (fun t k => XS.i2s D.st.here D.ex rfl (hb D.cb hd) rfl k) hr
theorem g_lneg (D : Wk p l e R m args below meth c own bytes maxL Z I s' T locs cells slots h) (pc' : Nat) {x : Int64} (hd : decode bytes pc = .ok (.lneg, 1)) (hp : pc + 1 = pc') (hr : Go p e below G (T.setTop (mkF m pc' Ls (.long (-x) :: S)))) : Go p e below G (T.setTop (mkF m pc Ls (.long x :: S))) := by
  subst hp; exact Go.mono (fun t k => XS.lneg D.st.here D.ex rfl (hb D.cb hd) rfl k) hr
theorem g_dup (D : Wk p l e R m args below meth c own bytes maxL Z I s' T locs cells slots h) (pc' : Nat) {x : Value} (hd : decode bytes pc = .ok (.dup, 1)) (hc : x.category = 1) (hp : pc + 1 = pc') (hr : Go p e below G (T.setTop (mkF m pc' Ls (x :: x :: S)))) : Go p e below G (T.setTop (mkF m pc Ls (x :: S))) := by
  subst hp; exact Go.mono (fun t k => XS.dup D.st.here D.ex rfl (hb D.cb hd) rfl hc k) hr
theorem g_pop (D : Wk p l e R m args below meth c own bytes maxL Z I s' T locs cells slots h) (pc' : Nat) {x : Value} (hd : decode bytes pc = .ok (.pop, 1)) (hc : x.category = 1) (hp : pc + 1 = pc') (hr : Go p e below G (T.setTop (mkF m pc' Ls S))) : Go p e below G (T.setTop (mkF m pc Ls (x :: S))) := by
  subst hp; exact Go.mono (fun t k => XS.pop D.st.here D.ex rfl (hb D.cb hd) rfl hc k) hr
theorem g_dupX1 (D : Wk p l e R m args below meth c own bytes maxL Z I s' T locs cells slots h) (pc' : Nat) {x y : Value} (hd : decode bytes pc = .ok (.dup_x1, 1)) (hc : x.category = 1) (hc' : y.category = 1) (hp : pc + 1 = pc') (hr : Go p e below G (T.setTop (mkF m pc' Ls (x :: y :: x :: S)))) : Go p e below G (T.setTop (mkF m pc Ls (x :: y :: S))) := by
  subst hp; exact Go.mono (fun t k => XS.dupX1 D.st.here D.ex rfl (hb D.cb hd) rfl hc hc' k) hr
theorem g_dup2 (D : Wk p l e R m args below meth c own bytes maxL Z I s' T locs cells slots h) (pc' : Nat) {x y : Value} (hd : decode bytes pc = .ok (.dup2, 1)) (hc : x.category = 1) (hc' : y.category = 1) (hp : pc + 1 = pc') (hr : Go p e below G (T.setTop (mkF m pc' Ls (x :: y :: x :: y :: S)))) : Go p e below G (T.setTop (mkF m pc Ls (x :: y :: S))) := by
  subst hp; exact Go.mono (fun t k => XT.dup2 D.st.here D.ex rfl (hb D.cb hd) rfl hc hc' k) hr
theorem g_dup2L (D : Wk p l e R m args below meth c own bytes maxL Z I s' T locs cells slots h) (pc' : Nat) {x : Int64} (hd : decode bytes pc = .ok (.dup2, 1)) (hp : pc + 1 = pc') (hr : Go p e below G (T.setTop (mkF m pc' Ls (.long x :: .long x :: S)))) : Go p e below G (T.setTop (mkF m pc Ls (.long x :: S))) := by
  subst hp; exact Go.mono (fun t k => XT.dup2L D.st.here D.ex rfl (hb D.cb hd) rfl k) hr
theorem g_iinc (D : Wk p l e R m args below meth c own bytes maxL Z I s' T locs cells slots h) (pc' : Nat) {k : Nat} {cst : Int} {x : Int32} (v : Int32) (l' : Array Slot) (hd : decode bytes pc = .ok (.iinc k cst, 3)) (hv : Int32.ofInt cst = v) (hl : Ls[k]? = some (.val (.int x))) (hl' : storeLocals Ls k (.int (x + v)) = some l') (hp : pc + 3 = pc') (hr : Go p e below G (T.setTop (mkF m pc' l' S))) : Go p e below G (T.setTop (mkF m pc Ls S)) := by
  subst hp; subst hv; exact Go.mono (fun t k => XS.iinc D.st.here D.ex rfl (hb D.cb hd) hl hl' k) hr
theorem g_goto (D : Wk p l e R m args below meth c own bytes maxL Z I s' T locs cells slots h) (pc' : Nat) {o : Int} (hd : decode bytes pc = .ok (.goto o, 3)) (ho : 0 ≤ (pc : Int) + o) (hp : ((pc : Int) + o).toNat = pc') (hr : Go p e below G (T.setTop (mkF m pc' Ls S))) : Go p e below G (T.setTop (mkF m pc Ls S)) :=
  Go.mono (fun t k => XS.goto D.st.here D.ex rfl rfl (hb D.cb hd) ho hp k) hr
theorem g_icmpY (D : Wk p l e R m args below meth c own bytes maxL Z I s' T locs cells slots h) (pc' : Nat) {cd : ClassFile.Cond} {x y : Int32} {o : Int} (hd : decode bytes pc = .ok (.if_icmp cd o, 3)) (hc : if_icmp.holds cd x y = true) (ho : 0 ≤ (pc : Int) + o) (hp : ((pc : Int) + o).toNat = pc') (hr : Go p e below G (T.setTop (mkF m pc' Ls S))) : Go p e below G (T.setTop (mkF m pc Ls (.int y :: .int x :: S))) :=
  Go.mono (fun t k => XS.icmpYes D.st.here D.ex rfl rfl (hb D.cb hd) rfl hc ho hp k) hr
theorem g_icmpN (D : Wk p l e R m args below meth c own bytes maxL Z I s' T locs cells slots h) (pc' : Nat) {cd : ClassFile.Cond} {x y : Int32} {o : Int} (hd : decode bytes pc = .ok (.if_icmp cd o, 3)) (hc : if_icmp.holds cd x y = false) (hp : pc + 3 = pc') (hr : Go p e below G (T.setTop (mkF m pc' Ls S))) : Go p e below G (T.setTop (mkF m pc Ls (.int y :: .int x :: S))) := by
  subst hp; exact Go.mono (fun t k => XS.icmpNo D.st.here D.ex rfl (hb D.cb hd) rfl hc k) hr
theorem g_ifY (D : Wk p l e R m args below meth c own bytes maxL Z I s' T locs cells slots h) (pc' : Nat) {cd : ClassFile.Cond} {x : Int32} {o : Int} (hd : decode bytes pc = .ok (.ifCond cd o, 3)) (hc : if_icmp.holds cd x 0 = true) (ho : 0 ≤ (pc : Int) + o) (hp : ((pc : Int) + o).toNat = pc') (hr : Go p e below G (T.setTop (mkF m pc' Ls S))) : Go p e below G (T.setTop (mkF m pc Ls (.int x :: S))) :=
  Go.mono (fun t k => XS.ifYes D.st.here D.ex rfl rfl (hb D.cb hd) rfl ((if0 _ _).trans hc) ho hp k) hr
theorem g_ifN (D : Wk p l e R m args below meth c own bytes maxL Z I s' T locs cells slots h) (pc' : Nat) {cd : ClassFile.Cond} {x : Int32} {o : Int} (hd : decode bytes pc = .ok (.ifCond cd o, 3)) (hc : if_icmp.holds cd x 0 = false) (hp : pc + 3 = pc') (hr : Go p e below G (T.setTop (mkF m pc' Ls S))) : Go p e below G (T.setTop (mkF m pc Ls (.int x :: S))) := by
  subst hp; exact Go.mono (fun t k => XS.ifNo D.st.here D.ex rfl (hb D.cb hd) rfl ((if0 _ _).trans hc) k) hr
theorem g_nullY (D : Wk p l e R m args below meth c own bytes maxL Z I s' T locs cells slots h) (pc' : Nat) {o : Int} (hd : decode bytes pc = .ok (.ifnull o, 3)) (ho : 0 ≤ (pc : Int) + o) (hp : ((pc : Int) + o).toNat = pc') (hr : Go p e below G (T.setTop (mkF m pc' Ls S))) : Go p e below G (T.setTop (mkF m pc Ls (.null :: S))) :=
  Go.mono (fun t k => XS.ifnullYes D.st.here D.ex rfl rfl (hb D.cb hd) rfl ho hp k) hr
theorem g_nullN (D : Wk p l e R m args below meth c own bytes maxL Z I s' T locs cells slots h) (pc' : Nat) {o : Int} {b : Addr} (hd : decode bytes pc = .ok (.ifnull o, 3)) (hp : pc + 3 = pc') (hr : Go p e below G (T.setTop (mkF m pc' Ls S))) : Go p e below G (T.setTop (mkF m pc Ls (.ref b :: S))) := by
  subst hp; exact Go.mono (fun t k => XS.ifnullNo D.st.here D.ex rfl (hb D.cb hd) rfl k) hr
theorem g_nnY (D : Wk p l e R m args below meth c own bytes maxL Z I s' T locs cells slots h) (pc' : Nat) {o : Int} {b : Addr} (hd : decode bytes pc = .ok (.ifnonnull o, 3)) (ho : 0 ≤ (pc : Int) + o) (hp : ((pc : Int) + o).toNat = pc') (hr : Go p e below G (T.setTop (mkF m pc' Ls S))) : Go p e below G (T.setTop (mkF m pc Ls (.ref b :: S))) :=
  Go.mono (fun t k => XS.ifnonnullYes D.st.here D.ex rfl rfl (hb D.cb hd) rfl ho hp k) hr
theorem g_nnN (D : Wk p l e R m args below meth c own bytes maxL Z I s' T locs cells slots h) (pc' : Nat) {o : Int} (hd : decode bytes pc = .ok (.ifnonnull o, 3)) (hp : pc + 3 = pc') (hr : Go p e below G (T.setTop (mkF m pc' Ls S))) : Go p e below G (T.setTop (mkF m pc Ls (.null :: S))) := by
  subst hp; exact Go.mono (fun t k => XS.ifnonnullNo D.st.here D.ex rfl (hb D.cb hd) rfl k) hr
theorem g_acmp (D : Wk p l e R m args below meth c own bytes maxL Z I s' T locs cells slots h) (pc' : Nat) {cd : ACond} {x y : Value} {o : Int} (hd : decode bytes pc = .ok (.if_acmp cd o, 3)) (h1 : x.isRef = true) (h2 : y.isRef = true) {same : Bool} (hq : decide (x = y) = same) (ho : 0 ≤ (pc : Int) + o) (hp : pc' = if acV cd same = true then ((pc : Int) + o).toNat else pc + 3) (hr : Go p e below G (T.setTop (mkF m pc' Ls S))) : Go p e below G (T.setTop (mkF m pc Ls (y :: x :: S))) :=
  Go.mono (fun t k => Jvm.RoadKit.acmp (g := mkF m pc Ls (y :: x :: S)) D.st D.ex rfl h1 h2 rfl (hb D.cb hd) rfl hq ho hp k) hr
theorem g_ldcI (D : Wk p l e R m args below meth c own bytes maxL Z I s' T locs cells slots h) (pc' : Nat) {index : Nat} {v : Int32} (w : (Cond.constant own index v).before a0 Z = true) (hd : decode bytes pc = .ok (.ldc index, 2)) (hp : pc + 2 = pc') (hr : Go p e below G (T.setTop (mkF m pc' Ls (.int v :: S)))) : Go p e below G (T.setTop (mkF m pc Ls S)) := by
  subst hp; exact Go.mono (fun t k => Jvm.Stand.ldcI D.st D.ex D.ow (mv D.wm w) rfl (hb D.cb hd) k) hr
theorem g_ldcWI (D : Wk p l e R m args below meth c own bytes maxL Z I s' T locs cells slots h) (pc' : Nat) {index : Nat} {v : Int32} (w : (Cond.constant own index v).before a0 Z = true) (hd : decode bytes pc = .ok (.ldc_w index, 3)) (hp : pc + 3 = pc') (hr : Go p e below G (T.setTop (mkF m pc' Ls (.int v :: S)))) : Go p e below G (T.setTop (mkF m pc Ls S)) := by
  subst hp; exact Go.mono (fun t k => Jvm.Stand.ldcWI D.st D.ex D.ow (mv D.wm w) rfl (hb D.cb hd) k) hr
theorem g_ldc2J (D : Wk p l e R m args below meth c own bytes maxL Z I s' T locs cells slots h) (pc' : Nat) {index : Nat} {v : Int64} (w : (Cond.constantLong own index v).before a0 Z = true) (hd : decode bytes pc = .ok (.ldc2_w index, 3)) (hp : pc + 3 = pc') (hr : Go p e below G (T.setTop (mkF m pc' Ls (.long v :: S)))) : Go p e below G (T.setTop (mkF m pc Ls S)) := by
  subst hp; exact Go.mono (fun t k => Jvm.Stand.ldc2J D.st D.ex D.ow (mv D.wm w) rfl (hb D.cb hd) k) hr
theorem g_lswHit (D : Wk p l e R m args below meth c own bytes maxL Z I s' T locs cells slots h) (pc' : Nat) {k : Int32} {dflt : Int} {ps : Array (Int × Int)} {len : Nat} {a o : Int} (hd : decode bytes pc = .ok (.lookupswitch dflt ps, len)) (hso : (ps.toList.zip (ps.toList.drop 1)).all (fun (a, next) => a.1 < next.1) = true) (hf : ps.find? (·.1 == k.toInt) = some (a, o)) (ho : 0 ≤ (pc : Int) + o) (hp : ((pc : Int) + o).toNat = pc') (hr : Go p e below G (T.setTop (mkF m pc' Ls S))) : Go p e below G (T.setTop (mkF m pc Ls (.int k :: S))) := by
  subst hp; exact Go.mono (fun t q => D.st.lookupswitchHit D.ex (g := mkF m pc Ls (.int k :: S)) rfl (k := k) (rest := S) rfl (hb D.cb hd) hso hf ho _ q) hr
theorem g_lswMiss (D : Wk p l e R m args below meth c own bytes maxL Z I s' T locs cells slots h) (pc' : Nat) {k : Int32} {dflt : Int} {ps : Array (Int × Int)} {len : Nat} (hd : decode bytes pc = .ok (.lookupswitch dflt ps, len)) (hso : (ps.toList.zip (ps.toList.drop 1)).all (fun (a, next) => a.1 < next.1) = true) (hf : ps.find? (·.1 == k.toInt) = none) (ho : 0 ≤ (pc : Int) + dflt) (hp : ((pc : Int) + dflt).toNat = pc') (hr : Go p e below G (T.setTop (mkF m pc' Ls S))) : Go p e below G (T.setTop (mkF m pc Ls (.int k :: S))) := by
  subst hp; exact Go.mono (fun t q => D.st.lookupswitchMiss D.ex (g := mkF m pc Ls (.int k :: S)) rfl (k := k) (rest := S) rfl (hb D.cb hd) hso hf ho _ q) hr
theorem g_tswIn (D : Wk p l e R m args below meth c own bytes maxL Z I s' T locs cells slots h) (pc' : Nat) {i : Int32} {dflt low high : Int} {offs : Array Int} {len : Nat} {o : Int} (hd : decode bytes pc = .ok (.tableswitch dflt low high offs, len)) (hin : ¬ (i.toInt < low ∨ i.toInt > high)) (hoff : offs[(i.toInt - low).toNat]? = some o) (ho : 0 ≤ (pc : Int) + o) (hp : ((pc : Int) + o).toNat = pc') (hr : Go p e below G (T.setTop (mkF m pc' Ls S))) : Go p e below G (T.setTop (mkF m pc Ls (.int i :: S))) :=
  Go.mono (fun t k => XS.tswIn D.st.here D.ex rfl rfl (hb D.cb hd) rfl hin hoff ho hp k) hr
theorem g_getF (D : Wk p l e R m args below meth c own bytes maxL Z I s' T locs cells slots h) (pc' : Nat) {R0 O n d : String} {index : Nat} (w : (Cond.fieldLink own index R0 n d).before a0 Z = true) (via : Via Z R0 O n d) {a : Addr} {v : Value} (F : Fld Z h a O n d v) (hd : decode bytes pc = .ok (.getfield index, 3)) (hp : pc + 3 = pc')
    (hr : ∀ T', Wk p l e R m args below meth c own bytes maxL Z I s' T' locs cells slots h → Go p e below G (T'.setTop (mkF m pc' Ls (v :: S)))) : Go p e below G (T.setTop (mkF m pc Ls (.ref a :: S))) := by
  subst hp
  obtain ⟨T', X', e', st⟩ := getF D.st D.ex D.wm D.ow (host := "") (Or.inl w) via D.eq F (g := mkF m pc Ls (.ref a :: S)) rfl rfl (hb D.cb hd)
  exact Go.mono st (hr T' (D.mk' X' e' D.iv))
theorem g_getS (D : Wk p l e R m args below meth c own bytes maxL Z I s' T locs cells slots h) (pc' : Nat) {R0 O n d : String} {index : Nat} (w : (Cond.fieldLink own index R0 n d).before a0 Z = true) (via : Via Z R0 O n d) {v : Value} (F : Sta Z h O n d v) (hd : decode bytes pc = .ok (.getstatic index, 3)) (hp : pc + 3 = pc')
    (hr : ∀ T', Wk p l e R m args below meth c own bytes maxL Z I s' T' locs cells slots h → Go p e below G (T'.setTop (mkF m pc' Ls (v :: S)))) : Go p e below G (T.setTop (mkF m pc Ls S)) := by
  subst hp
  obtain ⟨T', X', e', st⟩ := getS (host := "") D.st D.ex D.wm D.ow w via D.eq F (g := mkF m pc Ls S) rfl (hb D.cb hd)
  exact Go.mono st (hr T' (D.mk' X' e' D.iv))
theorem g_putF (D : Wk p l e R m args below meth c own bytes maxL Z I s' T locs cells slots h) (pc' : Nat) {R0 O n d C : String} {index kk : Nat} {ty : FieldType} (w : (Cond.fieldLink own index R0 n d).before a0 Z = true) (via : Via Z R0 O n d) {a : Addr} {v old : Value} (F : Fld Z h a O n d old) (E : Exa Z h a C)
    (L : (Cond.lays C O n d).before a0 Z = true ∨ ((Cond.laysFinal C O n d).before a0 Z = true ∧ own = O ∧ meth.name = "<init>")) (wi : (Cond.instantiable C kk).before a0 Z = true) (hty : parseFieldDescriptor d = some ty) (hn : narrow ty v = v) (hf : fits ty v = true)
    (hI : ∀ h', Wr h h' a (RoadKit.slotOf Z O n d) v → I s' h') (hd : decode bytes pc = .ok (.putfield index, 3)) (hp : pc + 3 = pc')
    (hr : ∀ T' h', Wr h h' a (RoadKit.slotOf Z O n d) v → Wk p l e R m args below meth c own bytes maxL Z I s' T' (locs ++ [⟨a, RoadKit.slotOf Z O n d⟩]) cells slots h' → Go p e below G (T'.setTop (mkF m pc' Ls S))) : Go p e below G (T.setTop (mkF m pc Ls (v :: .ref a :: S))) := by
  subst hp
  obtain ⟨T', h', X', e', W', st⟩ := putF D.st D.ex D.wm D.ow (host := "") (Or.inl w) via D.eq F E L wi hty hn hf (g := mkF m pc Ls (v :: .ref a :: S)) rfl rfl (hb D.cb hd)
  exact Go.mono st (hr T' h' W' (D.mk' X' e' (hI h' W')))
theorem g_newO (D : Wk p l e R m args below meth c own bytes maxL Z I s' T locs cells slots h) (pc' : Nat) {C : String} {index n : Nat} (w : (Cond.classLink own index C).before a0 Z = true) (wi : (Cond.instantiable C n).before a0 Z = true) (wz : (Cond.initialized C).before a0 Z = true) (hd : decode bytes pc = .ok (.new index, 3)) (hc : cells + 1 ≤ R.cells) (hl : slots + n ≤ R.slots) (hI : ∀ h', Ext h h' → I s' h') (hp : pc + 3 = pc')
    (hr : ∀ T' h' a, a = h.size → Ext h h' → Exa Z h' a C → (∀ {O nm d : String} {ty : FieldType}, Laid Z a0 C O nm d → parseFieldDescriptor d = some ty → Fld Z h' a O nm d (defaultValue ty)) → Wk p l e R m args below meth c own bytes maxL Z I s' T' locs (cells + 1) (slots + n) h' → Go p e below G (T'.setTop (mkF m pc' Ls (.ref a :: S)))) : Go p e below G (T.setTop (mkF m pc Ls S)) := by
  subst hp
  obtain ⟨T', h', X', e', E', A', D', -, st⟩ := newO D.st D.ex D.wm D.ow w wi wz D.eq (g := mkF m pc Ls S) rfl (hb D.cb hd) hc hl
  exact Go.mono st (hr T' h' _ rfl E' A' D' (D.mk' X' e' (hI h' E')))
theorem g_newP (D : Wk p l e R m args below meth c own bytes maxL Z I s' T locs cells slots h) (pc' : Nat) {aty : ArrayType} (w : (Cond.arrayClass (newarray.typeOf aty)).before a0 Z = true) {n : Int32} (hd : decode bytes pc = .ok (.newarray aty, 2)) (hn : ¬ n < 0) {cap : Nat} (hcap : n.toNatClampNeg ≤ cap) (hb' : cap * 8 ≤ 536870912) (hc : cells + 1 ≤ R.cells) (hl : slots + cap ≤ R.slots) (hI : ∀ h', Ext h h' → I s' h') (hp : pc + 2 = pc')
    (hr : ∀ T' h' a k, a = h.size → Ext h h' → Arv Z h' a k (newarray.typeOf aty) n [] (defaultValue (newarray.typeOf aty)) → Wk p l e R m args below meth c own bytes maxL Z I s' T' locs (cells + 1) (slots + cap) h' → Go p e below G (T'.setTop (mkF m pc' Ls (.ref a :: S)))) : Go p e below G (T.setTop (mkF m pc Ls (.int n :: S))) := by
  subst hp
  obtain ⟨T', h', k, X', e', E', A', st⟩ := newP D.st D.ex D.wm w D.eq (g := mkF m pc Ls (.int n :: S)) rfl (hb D.cb hd) rfl hn hcap hb' hc hl
  exact Go.mono st (hr T' h' _ k rfl E' (Arv.new A' hn) (D.mk' X' e' (hI h' E')))
theorem g_castY (D : Wk p l e R m args below meth c own bytes maxL Z I s' T locs cells slots h) (pc' : Nat) {K : String} {index : Nat} (w : (Cond.classLink own index K).before a0 Z = true) {a : Addr} (F : Ins Z h a K true) (hd : decode bytes pc = .ok (.checkcast index, 3)) (hp : pc + 3 = pc')
    (hr : ∀ T', Wk p l e R m args below meth c own bytes maxL Z I s' T' locs cells slots h → Go p e below G (T'.setTop (mkF m pc' Ls (.ref a :: S)))) : Go p e below G (T.setTop (mkF m pc Ls (.ref a :: S))) := by
  subst hp
  obtain ⟨T', X', e', st⟩ := castY D.st D.ex D.wm D.ow w D.eq F (g := mkF m pc Ls (.ref a :: S)) rfl rfl (hb D.cb hd)
  exact Go.mono st (hr T' (D.mk' X' e' D.iv))
theorem g_instY (D : Wk p l e R m args below meth c own bytes maxL Z I s' T locs cells slots h) (pc' : Nat) {K : String} {index : Nat} (w : (Cond.classLink own index K).before a0 Z = true) {a : Addr} (F : Ins Z h a K true) (hd : decode bytes pc = .ok (.instanceof index, 3)) (hp : pc + 3 = pc')
    (hr : ∀ T', Wk p l e R m args below meth c own bytes maxL Z I s' T' locs cells slots h → Go p e below G (T'.setTop (mkF m pc' Ls (.int 1 :: S)))) : Go p e below G (T.setTop (mkF m pc Ls (.ref a :: S))) := by
  subst hp
  obtain ⟨T', X', e', st⟩ := instY D.st D.ex D.wm D.ow w D.eq F (g := mkF m pc Ls (.ref a :: S)) rfl rfl (hb D.cb hd)
  exact Go.mono st (hr T' (D.mk' X' e' D.iv))
theorem g_instNo (D : Wk p l e R m args below meth c own bytes maxL Z I s' T locs cells slots h) (pc' : Nat) {K C : String} {index : Nat} (w : (Cond.classLink own index K).before a0 Z = true) {a : Addr} (E : Exa Z h a C) (F : ∃ c t, Z.vm.findClass C = some c ∧ Z.vm.findClass K = some t ∧ Z.vm.assignable c t = false) (hd : decode bytes pc = .ok (.instanceof index, 3)) (hp : pc + 3 = pc')
    (hr : ∀ T', Wk p l e R m args below meth c own bytes maxL Z I s' T' locs cells slots h → Go p e below G (T'.setTop (mkF m pc' Ls (.int 0 :: S)))) : Go p e below G (T.setTop (mkF m pc Ls (.ref a :: S))) := by
  subst hp
  obtain ⟨T', X', e', st⟩ := instNo D.st D.ex D.wm D.ow w D.eq E F (g := mkF m pc Ls (.ref a :: S)) rfl rfl (hb D.cb hd)
  exact Go.mono st (hr T' (D.mk' X' e' D.iv))
theorem g_instNull (D : Wk p l e R m args below meth c own bytes maxL Z I s' T locs cells slots h) (pc' : Nat) {index : Nat} (hd : decode bytes pc = .ok (.instanceof index, 3)) (hp : pc + 3 = pc') (hr : Go p e below G (T.setTop (mkF m pc' Ls (.int 0 :: S)))) : Go p e below G (T.setTop (mkF m pc Ls (.null :: S))) := by
  subst hp
  exact Go.mono (fun t k => D.st.instanceofNull D.ex (g := mkF m pc Ls (.null :: S)) rfl rfl (hb D.cb hd) t k) hr
theorem g_alen (D : Wk p l e R m args below meth c own bytes maxL Z I s' T locs cells slots h) (pc' : Nat) {a : Addr} {k : ClassId} {ty : FieldType} {n : Int32} {vs : List Value} {d : Value} (V : Arv Z h a k ty n vs d) (hd : decode bytes pc = .ok (.arraylength, 1)) (hp : pc + 1 = pc') (hr : Go p e below G (T.setTop (mkF m pc' Ls (.int n :: S)))) : Go p e below G (T.setTop (mkF m pc Ls (.ref a :: S))) := by
  subst hp
  obtain ⟨cl, A, -, q, q', -⟩ := V
  refine Go.mono (fun t k => D.st.arraylength D.ex (by rw [D.eq]; exact A.1) (State.isArrayOf_alike D.wm.alike A.2.1) (g := mkF m pc Ls (.ref a :: S)) rfl rfl (hb D.cb hd) t k) ?_
  rw [len_of q q']; exact hr
theorem g_caload (D : Wk p l e R m args below meth c own bytes maxL Z I s' T locs cells slots h) (pc' : Nat) {a : Addr} {k : ClassId} {n j : Int32} {vs : List Value} {d v : Value} (V : Arv Z h a k .char n vs d) (hj : ¬ j < 0 ∧ j < n) (hv : vs.getD j.toNatClampNeg d = v) (hd : decode bytes pc = .ok (.caload, 1)) (hp : pc + 1 = pc') (hr : Go p e below G (T.setTop (mkF m pc' Ls (v :: S)))) : Go p e below G (T.setTop (mkF m pc Ls (.int j :: .ref a :: S))) := by
  subst hp
  obtain ⟨cl, A, -, q, q', H, -⟩ := V
  exact Go.mono (fun t k => D.st.caload D.ex (by rw [D.eq]; exact A.1) (State.isArrayOf_alike D.wm.alike A.2.1) A.2.2 (inb_of q hj) (H.at (inb_of q hj) hv) (g := mkF m pc Ls (.int j :: .ref a :: S)) rfl rfl (hb D.cb hd) t k) hr
theorem g_baload (D : Wk p l e R m args below meth c own bytes maxL Z I s' T locs cells slots h) (pc' : Nat) {a : Addr} {k : ClassId} {n j : Int32} {vs : List Value} {d v : Value} (V : Arv Z h a k .byte n vs d) (hj : ¬ j < 0 ∧ j < n) (hv : vs.getD j.toNatClampNeg d = v) (hd : decode bytes pc = .ok (.baload, 1)) (hp : pc + 1 = pc') (hr : Go p e below G (T.setTop (mkF m pc' Ls (v :: S)))) : Go p e below G (T.setTop (mkF m pc Ls (.int j :: .ref a :: S))) := by
  subst hp
  obtain ⟨cl, A, -, q, q', H, -⟩ := V
  exact Go.mono (fun t k => D.st.baloadBytes D.ex (by rw [D.eq]; exact A.1) (State.isArrayOf_alike D.wm.alike A.2.1) A.2.2 (inb_of q hj) (H.at (inb_of q hj) hv) (g := mkF m pc Ls (.int j :: .ref a :: S)) rfl rfl (hb D.cb hd) t k) hr
theorem g_iaload (D : Wk p l e R m args below meth c own bytes maxL Z I s' T locs cells slots h) (pc' : Nat) {a : Addr} {k : ClassId} {n j : Int32} {vs : List Value} {d v : Value} (V : Arv Z h a k .int n vs d) (hj : ¬ j < 0 ∧ j < n) (hv : vs.getD j.toNatClampNeg d = v) (hd : decode bytes pc = .ok (.iaload, 1)) (hp : pc + 1 = pc') (hr : Go p e below G (T.setTop (mkF m pc' Ls (v :: S)))) : Go p e below G (T.setTop (mkF m pc Ls (.int j :: .ref a :: S))) := by
  subst hp
  obtain ⟨cl, A, -, q, q', H, -⟩ := V
  exact Go.mono (fun t k => D.st.iaload D.ex (by rw [D.eq]; exact A.1) (State.isArrayOf_alike D.wm.alike A.2.1) A.2.2 (inb_of q hj) (H.at (inb_of q hj) hv) (g := mkF m pc Ls (.int j :: .ref a :: S)) rfl rfl (hb D.cb hd) t k) hr
theorem g_laload (D : Wk p l e R m args below meth c own bytes maxL Z I s' T locs cells slots h) (pc' : Nat) {a : Addr} {k : ClassId} {n j : Int32} {vs : List Value} {d v : Value} (V : Arv Z h a k .long n vs d) (hj : ¬ j < 0 ∧ j < n) (hv : vs.getD j.toNatClampNeg d = v) (hd : decode bytes pc = .ok (.laload, 1)) (hp : pc + 1 = pc') (hr : Go p e below G (T.setTop (mkF m pc' Ls (v :: S)))) : Go p e below G (T.setTop (mkF m pc Ls (.int j :: .ref a :: S))) := by
  subst hp
  obtain ⟨cl, A, -, q, q', H, -⟩ := V
  exact Go.mono (fun t k => D.st.laload D.ex (by rw [D.eq]; exact A.1) (State.isArrayOf_alike D.wm.alike A.2.1) A.2.2 (inb_of q hj) (H.at (inb_of q hj) hv) (g := mkF m pc Ls (.int j :: .ref a :: S)) rfl rfl (hb D.cb hd) t k) hr
theorem g_aaload (D : Wk p l e R m args below meth c own bytes maxL Z I s' T locs cells slots h) (pc' : Nat) {a : Addr} {k : ClassId} {n j : Int32} {ty : FieldType} {vs : List Value} {d v : Value} (V : Arv Z h a k ty n vs d) (hty : ty.isReference = true) (hj : ¬ j < 0 ∧ j < n) (hv : vs.getD j.toNatClampNeg d = v) (hd : decode bytes pc = .ok (.aaload, 1)) (hp : pc + 1 = pc') (hr : Go p e below G (T.setTop (mkF m pc' Ls (v :: S)))) : Go p e below G (T.setTop (mkF m pc Ls (.int j :: .ref a :: S))) := by
  subst hp
  obtain ⟨cl, A, -, q, q', H, -⟩ := V
  exact Go.mono (fun t k => D.st.aaload D.ex (by rw [D.eq]; exact A.1) (State.isArrayOf_alike D.wm.alike A.2.1) hty A.2.2 (inb_of q hj) (H.at (inb_of q hj) hv) (g := mkF m pc Ls (.int j :: .ref a :: S)) rfl rfl (hb D.cb hd) t k) hr
theorem g_castore (D : Wk p l e R m args below meth c own bytes maxL Z I s' T locs cells slots h) (pc' : Nat) {a : Addr} {k : ClassId} {n j : Int32} {x : Int32} {vs : List Value} {d : Value} (V : Arv Z h a k .char n vs d) (hj : ¬ j < 0 ∧ j < n) (i : Nat) (hi : j.toNatClampNeg = i) (hv : i < vs.length) (hI : ∀ h', Wr h h' a j.toNatClampNeg (.int (nar .char x)) → I s' h') (hd : decode bytes pc = .ok (.castore, 1)) (hp : pc + 1 = pc')
    (hr : ∀ T' h', Wr h h' a j.toNatClampNeg (.int (nar .char x)) → Arv Z h' a k .char n (vs.set i (.int (nar .char x))) d → Wk p l e R m args below meth c own bytes maxL Z I s' T' (locs ++ [⟨a, j.toNatClampNeg⟩]) cells slots h' → Go p e below G (T'.setTop (mkF m pc' Ls S))) : Go p e below G (T.setTop (mkF m pc Ls (.int x :: .int j :: .ref a :: S))) := by
  subst hp
  obtain ⟨cl, A, q1, q, q', H, F⟩ := V
  obtain ⟨T', h', X', e', W', st⟩ := stC D.st D.ex D.wm D.eq A (inb_of q hj) (g := mkF m pc Ls (.int x :: .int j :: .ref a :: S)) rfl rfl (hb D.cb hd)
  exact Go.mono st (hr T' h' W' (Arv.set A q1 q q' H F (fits_nar_char _) W' i hi hv) (D.mk' X' e' (hI h' W')))
theorem g_bastore (D : Wk p l e R m args below meth c own bytes maxL Z I s' T locs cells slots h) (pc' : Nat) {a : Addr} {k : ClassId} {n j : Int32} {x : Int32} {vs : List Value} {d : Value} (V : Arv Z h a k .byte n vs d) (hj : ¬ j < 0 ∧ j < n) (i : Nat) (hi : j.toNatClampNeg = i) (hv : i < vs.length) (hI : ∀ h', Wr h h' a j.toNatClampNeg (.int (nar .byte x)) → I s' h') (hd : decode bytes pc = .ok (.bastore, 1)) (hp : pc + 1 = pc')
    (hr : ∀ T' h', Wr h h' a j.toNatClampNeg (.int (nar .byte x)) → Arv Z h' a k .byte n (vs.set i (.int (nar .byte x))) d → Wk p l e R m args below meth c own bytes maxL Z I s' T' (locs ++ [⟨a, j.toNatClampNeg⟩]) cells slots h' → Go p e below G (T'.setTop (mkF m pc' Ls S))) : Go p e below G (T.setTop (mkF m pc Ls (.int x :: .int j :: .ref a :: S))) := by
  subst hp
  obtain ⟨cl, A, q1, q, q', H, F⟩ := V
  obtain ⟨T', h', X', e', W', st⟩ := stB D.st D.ex D.wm D.eq A (inb_of q hj) (g := mkF m pc Ls (.int x :: .int j :: .ref a :: S)) rfl rfl (hb D.cb hd)
  exact Go.mono st (hr T' h' W' (Arv.set A q1 q q' H F (fits_nar_byte _) W' i hi hv) (D.mk' X' e' (hI h' W')))
theorem g_iastore (D : Wk p l e R m args below meth c own bytes maxL Z I s' T locs cells slots h) (pc' : Nat) {a : Addr} {k : ClassId} {n j : Int32} {x : Int32} {vs : List Value} {d : Value} (V : Arv Z h a k .int n vs d) (hj : ¬ j < 0 ∧ j < n) (i : Nat) (hi : j.toNatClampNeg = i) (hv : i < vs.length) (hI : ∀ h', Wr h h' a j.toNatClampNeg (.int x) → I s' h') (hd : decode bytes pc = .ok (.iastore, 1)) (hp : pc + 1 = pc')
    (hr : ∀ T' h', Wr h h' a j.toNatClampNeg (.int x) → Arv Z h' a k .int n (vs.set i (.int x)) d → Wk p l e R m args below meth c own bytes maxL Z I s' T' (locs ++ [⟨a, j.toNatClampNeg⟩]) cells slots h' → Go p e below G (T'.setTop (mkF m pc' Ls S))) : Go p e below G (T.setTop (mkF m pc Ls (.int x :: .int j :: .ref a :: S))) := by
  subst hp
  obtain ⟨cl, A, q1, q, q', H, F⟩ := V
  obtain ⟨T', h', X', e', W', st⟩ := stI D.st D.ex D.wm D.eq A (inb_of q hj) (g := mkF m pc Ls (.int x :: .int j :: .ref a :: S)) rfl rfl (hb D.cb hd)
  exact Go.mono st (hr T' h' W' (Arv.set A q1 q q' H F rfl W' i hi hv) (D.mk' X' e' (hI h' W')))
theorem g_lastore (D : Wk p l e R m args below meth c own bytes maxL Z I s' T locs cells slots h) (pc' : Nat) {a : Addr} {k : ClassId} {n j : Int32} {x : Int64} {vs : List Value} {d : Value} (V : Arv Z h a k .long n vs d) (hj : ¬ j < 0 ∧ j < n) (i : Nat) (hi : j.toNatClampNeg = i) (hv : i < vs.length) (hI : ∀ h', Wr h h' a j.toNatClampNeg (.long x) → I s' h') (hd : decode bytes pc = .ok (.lastore, 1)) (hp : pc + 1 = pc')
    (hr : ∀ T' h', Wr h h' a j.toNatClampNeg (.long x) → Arv Z h' a k .long n (vs.set i (.long x)) d → Wk p l e R m args below meth c own bytes maxL Z I s' T' (locs ++ [⟨a, j.toNatClampNeg⟩]) cells slots h' → Go p e below G (T'.setTop (mkF m pc' Ls S))) : Go p e below G (T.setTop (mkF m pc Ls (.long x :: .int j :: .ref a :: S))) := by
  subst hp
  obtain ⟨cl, A, q1, q, q', H, F⟩ := V
  obtain ⟨T', h', X', e', W', st⟩ := stJ D.st D.ex D.wm D.eq A (inb_of q hj) (g := mkF m pc Ls (.long x :: .int j :: .ref a :: S)) rfl rfl (hb D.cb hd)
  exact Go.mono st (hr T' h' W' (Arv.set A q1 q q' H F rfl W' i hi hv) (D.mk' X' e' (hI h' W')))
theorem g_initO (D : Wk p l e R m args below meth c own bytes maxL Z I s' T locs cells slots h) (pc' : Nat) {idx : Nat} (w1 : (Cond.methodLink own idx Lib.objectInit).before a0 Z = true) (w2 : (Cond.instanceMethod Lib.objectInit).before a0 Z = true) (w3 : (Cond.code Lib.objectInit ⟨#[0xb1]⟩ 1 none).before a0 Z = true) (hsz : Ls.size = maxL) {a : Addr} (hd : decode bytes pc = .ok (.invokespecial idx, 3)) (hf : 1 ≤ R.frames) {W : Nat} (hW : (S.map fun v => v.category).sum ≤ W) (hl : W + 12 ≤ R.locals) (hp : pc + 3 = pc')
    (hr : ∀ T', Wk p l e R m args below meth c own bytes maxL Z I s' T' locs cells slots h → Go p e below G (T'.setTop (mkF m pc' Ls S))) : Go p e below G (T.setTop (mkF m pc Ls (.ref a :: S))) := by
  subst hp
  obtain ⟨T', X', e', st⟩ := initO D.st D.ex D.wm D.ow w1 w2 w3 D.eq (g := mkF m pc Ls (.ref a :: S)) rfl (by rw [D.ml]; exact hsz) rfl (hb D.cb hd) hf (W := W) (by simpa using hW) hl
  exact Go.mono st (hr T' (D.mk' X' e' D.iv))
theorem g_clone (D : Wk p l e R m args below meth c own bytes maxL Z I s' T locs cells slots h) (pc' : Nat) {ad : String} {index : Nat} (w1 : (Cond.methodLink own index ⟨ad, "clone", "()Ljava/lang/Object;"⟩).before a0 Z = true) (w2 : (Cond.sameMethod ad "java/lang/Object" "clone" "()Ljava/lang/Object;").before a0 Z = true) (w3 : (Cond.native ⟨"java/lang/Object", "clone", "()Ljava/lang/Object;"⟩).before a0 Z = true) (w4 : (Cond.instanceMethod ⟨"java/lang/Object", "clone", "()Ljava/lang/Object;"⟩).before a0 Z = true) (w5 : (Cond.selects ad ⟨ad, "clone", "()Ljava/lang/Object;"⟩ ⟨"java/lang/Object", "clone", "()Ljava/lang/Object;"⟩).before a0 Z = true) (w6 : (Cond.castable ad "java/lang/Cloneable").before a0 Z = true)
    {a : Addr} {k : ClassId} {ty : FieldType} {z : Int32} {vs : List Value} {dv : Value} (F : Arv Z h a k ty z vs dv) (E : Exa Z h a ad) (hsz : Ls.size = maxL) (hd : decode bytes pc = .ok (.invokevirtual index, 3)) (hf : 1 ≤ R.frames) {W cap : Nat} (hW : (S.map fun v => v.category).sum ≤ W) (hl : W + 14 ≤ R.locals) (hcap : z.toNatClampNeg ≤ cap) (hc : cells + 1 ≤ R.cells) (hsl : slots + cap ≤ R.slots) (hI : ∀ h', Ext h h' → I s' h') (hp : pc + 3 = pc')
    (hr : ∀ T' h' b, b = h.size → Ext h h' → Arv Z h' b k ty z vs dv → Exa Z h' b ad → Wk p l e R m args below meth c own bytes maxL Z I s' T' locs (cells + 1) (slots + cap) h' → Go p e below G (T'.setTop (mkF m pc' Ls (.ref b :: S)))) : Go p e below G (T.setTop (mkF m pc Ls (.ref a :: S))) := by
  subst hp
  obtain ⟨T', h', X', e', E', A', B', st⟩ := cloneH D.st D.ex D.wm D.ow w1 w2 w3 w4 w5 w6 D.eq F.arh E (g := mkF m pc Ls (.ref a :: S)) rfl (by rw [D.ml]; exact hsz) rfl (hb D.cb hd) hf (by simpa using hW) hl hcap hc hsl
  exact Go.mono st (hr T' h' _ rfl E' A' B' (D.mk' X' e' (hI h' E')))
theorem g_callS (D : Wk p l e R m args below meth c own bytes maxL Z I s' T locs cells slots h) (pc' : Nat) {index : Nat} {y : MethodName} {bz : ByteArray} {mL : Nat} {ret' : Option FieldType} {W ck sk : Nat} {as' : Array Value} {Q : Option Value → Heap → List Loc → Prop} (w1 : (Cond.methodLink own index y).before a0 Z = true) (w2 : (Cond.static y).before a0 Z = true) (w3 : (Cond.initialized y.cls).before a0 Z = true) (w4 : (Cond.code y bz mL ret').before a0 Z = true) (hy : y.cls ≠ "java/lang/invoke/MethodHandle" ∧ y.cls ≠ "java/lang/invoke/VarHandle")
    (K : Back l R p e below s' args y 3 W (fun A a => a = as' ∧ A.U.heap = h ∧ A.cells + ck ≤ R.cells ∧ A.slots + sk ≤ R.slots) (fun A _ v B => ∃ L, Q v B.U.heap L ∧ B.locs = A.locs ++ L ∧ B.cells = A.cells + ck ∧ B.slots = A.slots + sk)) (hsz : Ls.size = maxL) (argsL : List Value) (has : argsL.toArray = as') (hlen : ∀ sig, parseMethodDescriptor y.desc = some sig → argsL.length = sig.parameters.length) {S0 : List Value} (hst : S0 = argsL.reverse ++ S) (hW : (S.map fun v => v.category).sum ≤ W) (hc : cells + ck ≤ R.cells) (hl : slots + sk ≤ R.slots) (hI : ∀ v h' L, Q v h' L → I s' h') (hd : decode bytes pc = .ok (.invokestatic index, 3)) (hp : pc + 3 = pc')
    (hr : ∀ v T' h' L, Q v h' L → Wk p l e R m args below meth c own bytes maxL Z I s' T' (locs ++ L) (cells + ck) (slots + sk) h' → Go p e below G (T'.setTop (mkF m pc' Ls (v.toList ++ S)))) : Go p e below G (T.setTop (mkF m pc Ls S0)) := by
  subst hp hst
  obtain ⟨v, _, ⟨T', L', k', n'⟩, -, X', ⟨L, hQ, l', y', z'⟩, st⟩ := Jvm.LawKit.callS D.st D.ex D.ow (mvT D.wm w1) (mvT D.wm w2) (mvT D.wm w3) (mvT D.wm w4) hy K (g := mkF m pc Ls (argsL.reverse ++ S)) rfl (by rw [D.ml]; exact hsz) (argsL := argsL) (rest := S) hlen rfl (by simpa using hW) (hb D.cb hd) (fun _ _ => ⟨has, D.eq, hc, hl⟩)
  dsimp only at X' l' y' z' st hQ
  subst l' y' z'
  exact Go.mono st (hr v T' _ L hQ (D.mk' X' rfl (hI v _ L hQ)))
theorem g_callV (D : Wk p l e R m args below meth c own bytes maxL Z I s' T locs cells slots h) (pc' : Nat) {index : Nat} {y z : MethodName} {C : String} {W ck sk : Nat} {as' : Array Value} {Q : Option Value → Heap → List Loc → Prop} (w1 : (Cond.methodLink own index y).before a0 Z = true) (w2 : (Cond.declares y).before a0 Z = true) (hnf : NotFace s' y) (w4 : (Cond.selects C y z).before a0 Z = true) (w5 : (Cond.instanceMethod z).before a0 Z = true) (hy : y.cls ≠ "java/lang/invoke/MethodHandle" ∧ y.cls ≠ "java/lang/invoke/VarHandle")
    (K : Back l R p e below s' args z 3 W (fun A a => a = as' ∧ A.U.heap = h ∧ A.cells + ck ≤ R.cells ∧ A.slots + sk ≤ R.slots) (fun A _ v B => ∃ L, Q v B.U.heap L ∧ B.locs = A.locs ++ L ∧ B.cells = A.cells + ck ∧ B.slots = A.slots + sk)) {b : Addr} (E : Exa Z h b C) (hsz : Ls.size = maxL) (argsL : List Value) (has : (.ref b :: argsL).toArray = as') (hlen : ∀ sig, parseMethodDescriptor y.desc = some sig → argsL.length = sig.parameters.length) {S0 : List Value} (hst : S0 = argsL.reverse ++ .ref b :: S) (hW : (S.map fun v => v.category).sum ≤ W) (hc : cells + ck ≤ R.cells) (hl : slots + sk ≤ R.slots) (hI : ∀ v h' L, Q v h' L → I s' h') (hd : decode bytes pc = .ok (.invokevirtual index, 3)) (hp : pc + 3 = pc')
    (hr : ∀ v T' h' L, Q v h' L → Wk p l e R m args below meth c own bytes maxL Z I s' T' (locs ++ L) (cells + ck) (slots + sk) h' → Go p e below G (T'.setTop (mkF m pc' Ls (v.toList ++ S)))) : Go p e below G (T.setTop (mkF m pc Ls S0)) := by
  subst hp hst
  obtain ⟨cq, kq, qa, qb, qc⟩ := isOf D.wm D.eq E
  obtain ⟨v, _, ⟨T', L', k', n'⟩, -, X', ⟨L, hQ, l', y', z'⟩, st⟩ := D.st.virtualBack D.ex (y := y) (z := z) D.ow (mvT D.wm w1) (mvT D.wm w2) hnf (mvT D.wm w4) (mvT D.wm w5) hy K qa qc (g := mkF m pc Ls (argsL.reverse ++ .ref b :: S)) rfl (by rw [D.ml]; exact hsz) (Steps.refl _) (argsL := argsL) (rest := S) hlen rfl (by simpa using hW) (hb D.cb hd) (fun _ _ => ⟨has, D.eq, hc, hl⟩)
  dsimp only at X' l' y' z' st hQ
  subst l' y' z'
  exact Go.mono (fun t k => st.trans k) (hr v T' _ L hQ (D.mk' X' rfl (hI v _ L hQ)))
theorem g_callN (D : Wk p l e R m args below meth c own bytes maxL Z I s' T locs cells slots h) (pc' : Nat) {index : Nat} {y : MethodName} {bz : ByteArray} {mL : Nat} {W ck sk : Nat} {as' : Array Value} {Q : Option Value → Heap → List Loc → Prop} (hy1 : y.name = "<init>") (w1 : (Cond.methodLink own index y).before a0 Z = true) (w2 : (Cond.instanceMethod y).before a0 Z = true) (w3 : (Cond.code y bz mL none).before a0 Z = true) (hy : y.cls ≠ "java/lang/invoke/MethodHandle" ∧ y.cls ≠ "java/lang/invoke/VarHandle")
    (K : Back l R p e below s' args y 3 W (fun A a => a = as' ∧ A.U.heap = h ∧ A.cells + ck ≤ R.cells ∧ A.slots + sk ≤ R.slots) (fun A _ v B => ∃ L, Q v B.U.heap L ∧ B.locs = A.locs ++ L ∧ B.cells = A.cells + ck ∧ B.slots = A.slots + sk)) {b : Addr} (hsz : Ls.size = maxL) (argsL : List Value) (has : (.ref b :: argsL).toArray = as') (hlen : ∀ sig, parseMethodDescriptor y.desc = some sig → argsL.length = sig.parameters.length) {S0 : List Value} (hst : S0 = argsL.reverse ++ .ref b :: S) (hW : (S.map fun v => v.category).sum ≤ W) (hc : cells + ck ≤ R.cells) (hl : slots + sk ≤ R.slots) (hI : ∀ v h' L, Q v h' L → I s' h') (hd : decode bytes pc = .ok (.invokespecial index, 3)) (hp : pc + 3 = pc')
    (hr : ∀ v T' h' L, Q v h' L → Wk p l e R m args below meth c own bytes maxL Z I s' T' (locs ++ L) (cells + ck) (slots + sk) h' → Go p e below G (T'.setTop (mkF m pc' Ls (v.toList ++ S)))) : Go p e below G (T.setTop (mkF m pc Ls S0)) := by
  subst hp hst
  obtain ⟨v, _, ⟨T', L', k', n'⟩, -, X', ⟨L, hQ, l', y', z'⟩, st⟩ := D.st.specialBack D.ex (y := y) hy1 D.ow (mvT D.wm w1) (mvT D.wm w2) (mvT D.wm w3) hy K (g := mkF m pc Ls (argsL.reverse ++ .ref b :: S)) rfl (by rw [D.ml]; exact hsz) (Steps.refl _) (a := b) (argsL := argsL) (rest := S) hlen rfl (by simpa using hW) (hb D.cb hd) (fun _ _ => ⟨has, D.eq, hc, hl⟩)
  dsimp only at X' l' y' z' st hQ
  subst l' y' z'
  exact Go.mono (fun t k => st.trans k) (hr v T' _ L hQ (D.mk' X' rfl (hI v _ L hQ)))
theorem g_callNN (D : Wk p l e R m args below meth c own bytes maxL Z I s' T locs cells slots h) (pc' : Nat) {index : Nat} {host : String} {y : MethodName} {bz : ByteArray} {mL : Nat} {W ck sk : Nat} {as' : Array Value} {Q : Option Value → Heap → List Loc → Prop} (hy1 : y.name = "<init>") (w1 : (Cond.methodLinkNest own index y host).before a0 Z = true) (w2 : (Cond.instanceMethod y).before a0 Z = true) (w3 : (Cond.code y bz mL none).before a0 Z = true) (hy : y.cls ≠ "java/lang/invoke/MethodHandle" ∧ y.cls ≠ "java/lang/invoke/VarHandle")
    (K : Back l R p e below s' args y 3 W (fun A a => a = as' ∧ A.U.heap = h ∧ A.cells + ck ≤ R.cells ∧ A.slots + sk ≤ R.slots) (fun A _ v B => ∃ L, Q v B.U.heap L ∧ B.locs = A.locs ++ L ∧ B.cells = A.cells + ck ∧ B.slots = A.slots + sk)) {b : Addr} (hsz : Ls.size = maxL) (argsL : List Value) (has : (.ref b :: argsL).toArray = as') (hlen : ∀ sig, parseMethodDescriptor y.desc = some sig → argsL.length = sig.parameters.length) {S0 : List Value} (hst : S0 = argsL.reverse ++ .ref b :: S) (hW : (S.map fun v => v.category).sum ≤ W) (hc : cells + ck ≤ R.cells) (hl : slots + sk ≤ R.slots) (hI : ∀ v h' L, Q v h' L → I s' h') (hd : decode bytes pc = .ok (.invokespecial index, 3)) (hp : pc + 3 = pc')
    (hr : ∀ v T' h' L, Q v h' L → Wk p l e R m args below meth c own bytes maxL Z I s' T' (locs ++ L) (cells + ck) (slots + sk) h' → Go p e below G (T'.setTop (mkF m pc' Ls (v.toList ++ S)))) : Go p e below G (T.setTop (mkF m pc Ls S0)) := by
  subst hp hst
  obtain ⟨v, _, ⟨T', L', k', n'⟩, -, X', ⟨L, hQ, l', y', z'⟩, st⟩ := D.st.specialBackNest D.ex (y := y) hy1 D.ow (Cond.methodLinkNest_wide D.wm w1 :) (mvT D.wm w2) (mvT D.wm w3) hy K (g := mkF m pc Ls (argsL.reverse ++ .ref b :: S)) rfl (by rw [D.ml]; exact hsz) (Steps.refl _) (a := b) (argsL := argsL) (rest := S) hlen rfl (by simpa using hW) (hb D.cb hd) (fun _ _ => ⟨has, D.eq, hc, hl⟩)
  dsimp only at X' l' y' z' st hQ
  subst l' y' z'
  exact Go.mono (fun t k => st.trans k) (hr v T' _ L hQ (D.mk' X' rfl (hI v _ L hQ)))
theorem g_newPE (D : Wk p l e R m args below meth c own bytes maxL Z I s' T locs cells slots h) (pc' : Nat) {aty : ArrayType} (w : (Cond.arrayClass (newarray.typeOf aty)).before a0 Z = true) {n : Int32} (hd : decode bytes pc = .ok (.newarray aty, 2)) (hn : ¬ n < 0) {cap : Nat} (hcap : n.toNatClampNeg ≤ cap) (hb' : cap * 8 ≤ 536870912) (hc : cells + 1 ≤ R.cells) (hl : slots + cap ≤ R.slots) {ad : String} (had : "[" ++ (newarray.typeOf aty).toString = ad) (hI : ∀ h', Ext h h' → I s' h') (hp : pc + 2 = pc')
    (hr : ∀ T' h' a k, a = h.size → Ext h h' → Arv Z h' a k (newarray.typeOf aty) n [] (defaultValue (newarray.typeOf aty)) → Exa Z h' a ad → Wk p l e R m args below meth c own bytes maxL Z I s' T' locs (cells + 1) (slots + cap) h' → Go p e below G (T'.setTop (mkF m pc' Ls (.ref a :: S)))) : Go p e below G (T.setTop (mkF m pc Ls (.int n :: S))) := by
  subst hp
  obtain ⟨T', h', k, X', e', E', A', B', st⟩ := newPE D.st D.ex D.wm w D.eq (g := mkF m pc Ls (.int n :: S)) rfl (hb D.cb hd) rfl hn hcap hb' hc hl had
  exact Go.mono st (hr T' h' _ k rfl E' (Arv.new A' hn) B' (D.mk' X' e' (hI h' E')))
theorem g_cpA (D : Wk p l e R m args below meth c own bytes maxL Z I s' T locs cells slots h) (pc' : Nat) {index : Nat} (w1 : (Cond.methodLink own index Jvm.Stand.acN).before a0 Z = true) (w2 : (Cond.native Jvm.Stand.acN).before a0 Z = true) (w3 : (Cond.static Jvm.Stand.acN).before a0 Z = true) (w4 : (Cond.initialized "java/lang/System").before a0 Z = true) {a b : Addr} {k k' : ClassId} {ty : FieldType} {z z' sp dp nn : Int32} {vs vd : List Value} {dv dd : Value} (us : List Value) (A : Arv Z h a k ty z vs dv) (B : Arv Z h b k' ty z' vd dd) (hty : refKind ty = false)
    (h1 : ¬ sp < 0) (h2 : ¬ dp < 0) (h3 : ¬ nn < 0) (h4 : sp.toNatClampNeg + nn.toNatClampNeg ≤ z.toNatClampNeg) (h5 : dp.toNatClampNeg + nn.toNatClampNeg ≤ z'.toNatClampNeg) (hus : us = (List.range nn.toNatClampNeg).map fun i => vs.getD (sp.toNatClampNeg + i) dv) (hl : dp.toNatClampNeg + nn.toNatClampNeg ≤ vd.length) {n0 : Nat} (N : Fr n0 locs) (ge : n0 ≤ b) (hsz : Ls.size = maxL) (hd : decode bytes pc = .ok (.invokestatic index, 3)) (hf : 1 ≤ R.frames) {W : Nat} (hW : (S.map fun v => v.category).sum ≤ W) (hlo : W + (nativeFrameWords "java/lang/System" "arraycopy" 5 + 11) ≤ R.locals) (hI : ∀ h', Keep h h' [b] → I s' h') (hp : pc + 3 = pc')
    (hr : ∀ T' h' L, Fr n0 L → Keep h h' [b] → Arv Z h' b k' ty z' (vd.take dp.toNatClampNeg ++ us ++ vd.drop (dp.toNatClampNeg + nn.toNatClampNeg)) dd → Wk p l e R m args below meth c own bytes maxL Z I s' T' L cells slots h' → Go p e below G (T'.setTop (mkF m pc' Ls S))) : Go p e below G (T.setTop (mkF m pc Ls (.int nn :: .int dp :: .ref b :: .int sp :: .ref a :: S))) := by
  subst hp
  obtain ⟨T', h', L, X', e', N', K', A', st⟩ := cpA D.st D.ex D.wm D.ow w1 w2 w3 w4 D.eq A B (Or.inl ⟨rfl, hty⟩) h1 h2 h3 h4 h5 hus hl N ge (g := mkF m pc Ls (.int nn :: .int dp :: .ref b :: .int sp :: .ref a :: S)) rfl (by rw [D.ml]; exact hsz) rfl (hb D.cb hd) hf (by simpa using hW) hlo
  exact Go.mono st (hr T' h' L N' K' A' (D.mk' X' e' (hI h' K')))
theorem g_callSp (D : Wk p l e R m args below meth c own bytes maxL Z I s' T locs cells slots h) (pc' : Nat) {index : Nat} {y : MethodName} {bz : ByteArray} {mL : Nat} {ret' : Option FieldType} {W ck sk : Nat} {as' : Array Value} {Pv : Option Value → Prop} (w1 : (Cond.methodLink own index y).before a0 Z = true) (w2 : (Cond.static y).before a0 Z = true) (w3 : (Cond.initialized y.cls).before a0 Z = true) (w4 : (Cond.code y bz mL ret').before a0 Z = true) (hy : y.cls ≠ "java/lang/invoke/MethodHandle" ∧ y.cls ≠ "java/lang/invoke/VarHandle")
    (K : Back l R p e below s' args y 3 W (fun A a => a = as' ∧ A.U.heap = h ∧ A.cells + ck ≤ R.cells ∧ A.slots + sk ≤ R.slots) (fun A _ v B => ∃ L, (Pv v ∧ L = [] ∧ B.U.heap = h) ∧ B.locs = A.locs ++ L ∧ B.cells = A.cells + ck ∧ B.slots = A.slots + sk)) (hsz : Ls.size = maxL) (argsL : List Value) (has : argsL.toArray = as') (hlen : ∀ sig, parseMethodDescriptor y.desc = some sig → argsL.length = sig.parameters.length) {S0 : List Value} (hst : S0 = argsL.reverse ++ S) (hW : (S.map fun v => v.category).sum ≤ W) (hc : cells + ck ≤ R.cells) (hl : slots + sk ≤ R.slots) (hd : decode bytes pc = .ok (.invokestatic index, 3)) (hp : pc + 3 = pc')
    (hr : ∀ v T', Pv v → Wk p l e R m args below meth c own bytes maxL Z I s' T' locs (cells + ck) (slots + sk) h → Go p e below G (T'.setTop (mkF m pc' Ls (v.toList ++ S)))) : Go p e below G (T.setTop (mkF m pc Ls S0)) := by
  refine g_callS D pc' (Q := fun v h' L => Pv v ∧ L = [] ∧ h' = h) w1 w2 w3 w4 hy K hsz argsL has hlen hst hW hc hl (fun v h' L q => q.2.2 ▸ D.iv) hd hp ?_
  intro v T' h' L q D'
  obtain ⟨q1, q2, q3⟩ := q
  subst q2 q3
  rw [List.append_nil] at D'
  exact hr v T' q1 D'
theorem g_callVp (D : Wk p l e R m args below meth c own bytes maxL Z I s' T locs cells slots h) (pc' : Nat) {index : Nat} {y z : MethodName} {C : String} {W ck sk : Nat} {as' : Array Value} {Pv : Option Value → Prop} (w1 : (Cond.methodLink own index y).before a0 Z = true) (w2 : (Cond.declares y).before a0 Z = true) (hnf : NotFace s' y) (w4 : (Cond.selects C y z).before a0 Z = true) (w5 : (Cond.instanceMethod z).before a0 Z = true) (hy : y.cls ≠ "java/lang/invoke/MethodHandle" ∧ y.cls ≠ "java/lang/invoke/VarHandle")
    (K : Back l R p e below s' args z 3 W (fun A a => a = as' ∧ A.U.heap = h ∧ A.cells + ck ≤ R.cells ∧ A.slots + sk ≤ R.slots) (fun A _ v B => ∃ L, (Pv v ∧ L = [] ∧ B.U.heap = h) ∧ B.locs = A.locs ++ L ∧ B.cells = A.cells + ck ∧ B.slots = A.slots + sk)) {b : Addr} (E : Exa Z h b C) (hsz : Ls.size = maxL) (argsL : List Value) (has : (.ref b :: argsL).toArray = as') (hlen : ∀ sig, parseMethodDescriptor y.desc = some sig → argsL.length = sig.parameters.length) {S0 : List Value} (hst : S0 = argsL.reverse ++ .ref b :: S) (hW : (S.map fun v => v.category).sum ≤ W) (hc : cells + ck ≤ R.cells) (hl : slots + sk ≤ R.slots) (hd : decode bytes pc = .ok (.invokevirtual index, 3)) (hp : pc + 3 = pc')
    (hr : ∀ v T', Pv v → Wk p l e R m args below meth c own bytes maxL Z I s' T' locs (cells + ck) (slots + sk) h → Go p e below G (T'.setTop (mkF m pc' Ls (v.toList ++ S)))) : Go p e below G (T.setTop (mkF m pc Ls S0)) := by
  refine g_callV D pc' (Q := fun v h' L => Pv v ∧ L = [] ∧ h' = h) w1 w2 hnf w4 w5 hy K E hsz argsL has hlen hst hW hc hl (fun v h' L q => q.2.2 ▸ D.iv) hd hp ?_
  intro v T' h' L q D'
  obtain ⟨q1, q2, q3⟩ := q
  subst q2 q3
  rw [List.append_nil] at D'
  exact hr v T' q1 D'
theorem g_callIp (D : Wk p l e R m args below meth c own bytes maxL Z I s' T locs cells slots h) (pc' : Nat) {index count : Nat} {y z : MethodName} {C : String} {W ck sk : Nat} {as' : Array Value} {Pv : Option Value → Prop} (w1 : (Cond.methodLink own index y).before a0 Z = true) (w2 : (Cond.declares y).before a0 Z = true) (w3 : (Cond.interfaceMethod y.cls y.cls y.name y.desc).before a0 Z = true) (w4 : (Cond.selects C y z).before a0 Z = true) (w5 : (Cond.instanceMethod z).before a0 Z = true) (w6 : (Cond.publicMethod z).before a0 Z = true) (w7 : (Cond.unhidden C y.name y.desc).before a0 Z = true) (w8 : (Cond.castable C y.cls).before a0 Z = true) (hy : y.cls ≠ "java/lang/invoke/MethodHandle" ∧ y.cls ≠ "java/lang/invoke/VarHandle")
    (K : Back l R p e below s' args z 5 W (fun A a => a = as' ∧ A.U.heap = h ∧ A.cells + ck ≤ R.cells ∧ A.slots + sk ≤ R.slots) (fun A _ v B => ∃ L, (Pv v ∧ L = [] ∧ B.U.heap = h) ∧ B.locs = A.locs ++ L ∧ B.cells = A.cells + ck ∧ B.slots = A.slots + sk)) {b : Addr} (E : Exa Z h b C) (hsz : Ls.size = maxL) (argsL : List Value) (has : (.ref b :: argsL).toArray = as') (hlen : ∀ sig, parseMethodDescriptor y.desc = some sig → argsL.length = sig.parameters.length) {S0 : List Value} (hst : S0 = argsL.reverse ++ .ref b :: S) (hW : (S.map fun v => v.category).sum ≤ W) (hc : cells + ck ≤ R.cells) (hl : slots + sk ≤ R.slots) (hd : decode bytes pc = .ok (.invokeinterface index count, 5)) (hp : pc + 5 = pc')
    (hr : ∀ v T', Pv v → Wk p l e R m args below meth c own bytes maxL Z I s' T' locs (cells + ck) (slots + sk) h → Go p e below G (T'.setTop (mkF m pc' Ls (v.toList ++ S)))) : Go p e below G (T.setTop (mkF m pc Ls S0)) := by
  subst hp hst
  obtain ⟨cq, kq, qa, qb, qc⟩ := isOf D.wm D.eq E
  obtain ⟨v, _, ⟨T', L', k', n'⟩, -, X', ⟨L, hQ, l', y', z'⟩, st⟩ := D.st.interfaceBack D.ex (xi := y) (y := z) D.ow (mvT D.wm w1) (mvT D.wm w2) (mvT D.wm w3 (by simp [Cond.onTables, Cond.keepsFace, Cond.keeps, Cond.steady, Cond.faceAtom]; exact hy)) (mvT D.wm w4) (mvT D.wm w5) (mvT D.wm w6) (mvT D.wm w7) (mvT D.wm w8) hy K qa qb qc (g := mkF m pc Ls (argsL.reverse ++ .ref b :: S)) rfl (by rw [D.ml]; exact hsz) (Steps.refl _) (argsL := argsL) (rest := S) hlen rfl (by simpa using hW) (hb D.cb hd) (fun _ _ => ⟨has, D.eq, hc, hl⟩)
  dsimp only at X' l' y' z' st hQ
  subst l' y' z'
  obtain ⟨q1, q2, q3⟩ := hQ
  subst q2
  rw [List.append_nil] at X'
  exact Go.mono (fun t k => st.trans k) (hr v T' q1 (D.mk' X' q3 D.iv))
theorem clt_t {x y : Int64} (h : x < y) : XT.cmpL x y < 0 := by have := Int64.lt_iff_toInt_lt.mp h; unfold XT.cmpL; split <;> (try split) <;> simp_all [Int64.lt_iff_toInt_lt, ← Int64.toInt_inj] <;> omega
theorem clt_f {x y : Int64} (h : ¬ x < y) : ¬ XT.cmpL x y < 0 := by unfold XT.cmpL; split <;> (try split) <;> simp_all [Int64.lt_iff_toInt_lt, ← Int64.toInt_inj] <;> omega
theorem cgt_t {x y : Int64} (h : y < x) : 0 < XT.cmpL x y := by unfold XT.cmpL; split <;> (try split) <;> simp_all [Int64.lt_iff_toInt_lt, ← Int64.toInt_inj] <;> omega
theorem cgt_f {x y : Int64} (h : ¬ y < x) : ¬ 0 < XT.cmpL x y := by unfold XT.cmpL; split <;> (try split) <;> simp_all [Int64.lt_iff_toInt_lt, ← Int64.toInt_inj] <;> omega
theorem ceq_t {x y : Int64} (h : x = y) : XT.cmpL x y = 0 := by unfold XT.cmpL; split <;> (try split) <;> simp_all [Int64.lt_iff_toInt_lt, ← Int64.toInt_inj] <;> omega
theorem ceq_f {x y : Int64} (h : ¬ x = y) : ¬ XT.cmpL x y = 0 := by unfold XT.cmpL; split <;> (try split) <;> simp_all [Int64.lt_iff_toInt_lt, ← Int64.toInt_inj] <;> omega
/-- the invariant of a walk that loads no literal -/
def NI : State → Heap → Prop := fun _ _ => True
/-- what a walk that loads no literal ends in -/
def NG (s : State) (Q : Option Value → Heap → List Loc → Prop) (ck sk : Nat) : Outcome → State → Prop := fun o U' => ∃ v L, o = .returned v ∧ Q v U'.heap L ∧ FrameEnd s o U' L ck sk
variable {Q : Option Value → Heap → List Loc → Prop} {ck sk : Nat}
theorem r_gen (D : Wk p l e R m args below meth c own bytes maxL Z I s' T locs cells slots h) {v : Option Value} (hv : meth.sig.returnType = none → v = none) (hlk : meth.locks = false) (hst : ∀ fs, (∀ (f : JFrame) (acts : List Action), f.method = m → f.locked = none → f.entered = [] → (doReturn e (T.setTop f) acts v).1 = T.setFrames fs) → Steps p.tables e below (T.setTop (mkF m pc Ls S)) (T.setFrames fs)) (hQ : Q v h locs) (hc : cells ≤ ck) (hs : slots ≤ sk) : Go p e below (NG s' Q ck sk) (T.setTop (mkF m pc Ls S)) := by
  obtain ⟨fs, hr, hrun, hended, hW, hsame⟩ := D.st.leave (v := v) hv hlk
  refine ⟨_, _, hst fs hr, hrun, hended, _, _, rfl, ?_, ⟨_, rfl⟩, hW, hsame.mono hc hs⟩
  show Q v T.heap locs
  rw [D.eq]; exact hQ
theorem r_I (D : Wk p l e R m args below meth c own bytes maxL Z I s' T locs cells slots h) {z : Int32} (hret : meth.sig.returnType = some .int) (hlk : meth.locks = false) (hd : decode bytes pc = .ok (.ireturn, 1)) (hQ : Q (some (.int z)) h locs) (hc : cells ≤ ck) (hs : slots ≤ sk) : Go p e below (NG s' Q ck sk) (T.setTop (mkF m pc Ls (.int z :: S))) :=
  r_gen D (fun h => by rw [hret] at h; cases h) hlk (fun fs hr => retOut D.st D.ex hret rfl (Or.inl ⟨rfl, Or.inl rfl, _, rfl⟩) (hb D.cb hd) hr) hQ hc hs
theorem r_N (D : Wk p l e R m args below meth c own bytes maxL Z I s' T locs cells slots h) {t : FieldType} {z : Int32} (hret : meth.sig.returnType = some t) (ht : t = .boolean ∨ t = .byte ∨ t = .char ∨ t = .short) (hlk : meth.locks = false) (hd : decode bytes pc = .ok (.ireturn, 1)) (hQ : Q (some (.int (nar t z))) h locs) (hc : cells ≤ ck) (hs : slots ≤ sk) : Go p e below (NG s' Q ck sk) (T.setTop (mkF m pc Ls (.int z :: S))) :=
  r_gen D (fun h => by rw [hret] at h; cases h) hlk (fun fs hr => retN D.st D.ex hret ht (hb D.cb hd) hr) hQ hc hs
theorem r_A (D : Wk p l e R m args below meth c own bytes maxL Z I s' T locs cells slots h) {t : FieldType} {w : Value} (hret : meth.sig.returnType = some t) (ht : t.isReference = true) (hw : w.isRef = true) (hlk : meth.locks = false) (hd : decode bytes pc = .ok (.areturn, 1)) (hQ : Q (some w) h locs) (hc : cells ≤ ck) (hs : slots ≤ sk) : Go p e below (NG s' Q ck sk) (T.setTop (mkF m pc Ls (w :: S))) :=
  r_gen D (fun h => by rw [hret] at h; cases h) hlk (fun fs hr => retOut D.st D.ex hret (by cases t <;> first | (cases ht; done) | rfl) (Or.inr (Or.inr (Or.inr (Or.inr ⟨rfl, ht, hw⟩)))) (hb D.cb hd) hr) hQ hc hs
theorem r_J (D : Wk p l e R m args below meth c own bytes maxL Z I s' T locs cells slots h) {z : Int64} (hret : meth.sig.returnType = some .long) (hlk : meth.locks = false) (hd : decode bytes pc = .ok (.lreturn, 1)) (hQ : Q (some (.long z)) h locs) (hc : cells ≤ ck) (hs : slots ≤ sk) : Go p e below (NG s' Q ck sk) (T.setTop (mkF m pc Ls (.long z :: S))) :=
  r_gen D (fun h => by rw [hret] at h; cases h) hlk (fun fs hr => retOut D.st D.ex hret rfl (Or.inr (Or.inl ⟨rfl, rfl, _, rfl⟩)) (hb D.cb hd) hr) hQ hc hs
theorem r_V (D : Wk p l e R m args below meth c own bytes maxL Z I s' T locs cells slots h) (hret : meth.sig.returnType = none) (hlk : meth.locks = false) (hd : decode bytes pc = .ok (.return_, 1)) (hQ : Q none h locs) (hc : cells ≤ ck) (hs : slots ≤ sk) : Go p e below (NG s' Q ck sk) (T.setTop (mkF m pc Ls [])) :=
  r_gen D (fun _ => rfl) hlk (fun fs hr => D.st.returnOut D.ex hret (hb D.cb hd) hr) hQ hc hs
end Walk
/-- a contract: called with these arguments at this heap it returns, and Q tells what it leaves -/
abbrev Con (l : Launch) (y : MethodName) (bytes : ByteArray) (maxL : Nat) (ret : Option FieldType) (ws : List Jvm.Cond) (rm : Room) (Z : State) (as' : Array Value) (h0 : Heap) (Q : Option Value → Heap → List Loc → Prop) (ck sk : Nat) : Prop :=
  MetFree l y (head1 (Jvm.Cond.code y bytes maxL ret :: ws) rm) (fun a U => a = as' ∧ Z.Warmed39 U.vm ∧ U.heap = h0) (fun _ _ _ _ _ => True) (fun _ U o U' => ∃ v L, o = .returned v ∧ Q v U'.heap L ∧ FrameEnd U o U' L ck sk)
theorem enter {l : Launch} {y : MethodName} {bytes : ByteArray} {maxL : Nat} {ret : Option FieldType} {ws : List Jvm.Cond} {rm : Room} {Z : State} {as' : Array Value} {h0 : Heap} {Q : Option Value → Heap → List Loc → Prop} {ck sk : Nat} (hpl : plainFor y = true)
    (k : ∀ p e s m below meth c s₁, meth.name = y.name → meth.sig.returnType = ret → meth.locks = false → Wk p l e rm m as' below meth c y.cls bytes maxL Z NI s s₁ [] 0 0 h0 → Go p e below (NG s Q ck sk) (s₁.setTop (entryFrame m as' maxL))) :
    Con l y bytes maxL ret ws rm Z as' h0 Q ck sk := by
  refine MetFree.of_bodySF hpl hisR ?_
  intro p e s m args below meth c s₁ Bd hml0 hP hK
  obtain ⟨rfl, hZ, hh⟩ := hP
  have X0 : Stand p l e rm s m _ below meth c s₁ [] 0 0 := Stand.of_body Bd
  exact k p e s m below meth c s₁ (name_of_methodNamed Bd.named Bd.method).1 Bd.returns Bd.notSynchronized ⟨X0, by rw [← hh, Bd.state]; rfl, hZ, findClass_of_methodNamed Bd.named, Bd.exec, Bd.bytes, hml0, trivial⟩
theorem Con.back {l : Launch} {y : MethodName} {bytes : ByteArray} {maxL : Nat} {ret : Option FieldType} {rm : Room} {Z : State} {as' : Array Value} {h0 : Heap} {Q : Option Value → Heap → List Loc → Prop} (hM : Con l y bytes maxL ret [] rm Z as' h0 Q rm.cells rm.slots) {p : Program} {e : Env} {R : Room} {m : MethodId} {args : Array Value} {below : List Frame} {meth : Method} {c : Code} {own : String} {bz : ByteArray} {mL : Nat} {I : State → Heap → Prop} {s' T : State} {locs : List Loc} {cells slots : Nat} {h : Heap} {a0 : Array Value}
    (D : Wk p l e R m args below meth c own bz mL Z I s' T locs cells slots h) (W : Nat) {len : Nat} (wc : (Cond.code y bytes maxL ret).before a0 Z = true) (wz : (Cond.initialized y.cls).before a0 Z = true) (hf : rm.frames + 1 ≤ R.frames) (hl : W + (maxL + 11) + rm.locals ≤ R.locals) :
    Back l R p e below s' args y len W (fun A a => a = as' ∧ A.U.heap = h0 ∧ A.cells + rm.cells ≤ R.cells ∧ A.slots + rm.slots ≤ R.slots) (fun A _ v B => ∃ L, Q v B.U.heap L ∧ B.locs = A.locs ++ L ∧ B.cells = A.cells + rm.cells ∧ B.slots = A.slots + rm.slots) :=
  backOf hM D.wm wc wz hf hl
theorem eqr_v {args : Array Value} {Z : State} {X F : Term} {idx : List Nat} {y : Addr} (hF : F.eval args Z none idx Z = some (.ref y)) (h : (Cond.eq X F).value args Z none Z idx = some true) : X.eval args Z none idx Z = some (.ref y) := by
  obtain ⟨x, y', e1, e2, k1, k2⟩ := cmp_v (Or.inl h)
  cases hF.symm.trans e2
  have hx : x.isRef = true := k2.2
  have q := gotT (eq_R e1 hF hx rfl) h
  rw [e1, q]
theorem arv_start {Z : State} {args : Array Value} {t : Term} {a : Addr} {ty : FieldType} {n : Int32} {vs : List Value} {dv : Value} (hf : Fit Z) (ev : t.eval args Z none [] Z = some (.ref a)) (ha : (Cond.arrayOf t ty).value args Z none Z [] = some true) (hl : (Cond.eq (.length t) (.int n)).value args Z none Z [] = some true) (hn : ¬ n < 0) (hk : n.toNatClampNeg = vs.length) (H : ∀ cl : Cell, Z.heap[a]? = some cl → HasL cl 0 vs) : ∃ k, Arv Z Z.heap a k ty n vs dv := by
  obtain ⟨cl, A⟩ := Arr.start ev ha
  have q := eqv_i (Term.int_eval (n)) hl
  have q2 : cl.slots.size < 2 ^ 31 ∧ cl.slots.size.toInt32 = n := by
    have q3 := A.fin (Vm.Alike.refl _)
    simp only [Term.eval, ev, q3, Option.bind_eq_bind, Option.bind_some] at q
    split at q
    · rename_i q4; exact ⟨q4, by simpa using q⟩
    · cases q
  exact ⟨_, Arv.start hf A q2.1 q2.2 hn hk (H cl A.1)⟩
theorem w_0 : (Jvm.Cond.classLink "com/example/pactum/pactum/model/CredentialsEqualsPinLaw" (12 : Nat) "com/example/pactum/pactum/model/Credentials") ∈ tables_1 := List.mem_of_getElem? (i := 0) rfl
theorem w_1 : (Jvm.Cond.instantiable "com/example/pactum/pactum/model/Credentials" (3 : Nat)) ∈ tables_1 := List.mem_of_getElem? (i := 1) rfl
theorem w_2 : (Jvm.Cond.initialized "com/example/pactum/pactum/model/Credentials") ∈ tables_1 := List.mem_of_getElem? (i := 2) rfl
theorem w_3 : (Jvm.Cond.methodLink "com/example/pactum/pactum/model/CredentialsEqualsPinLaw" (14 : Nat) ({ cls := "com/example/pactum/pactum/model/CredentialsEqualsPinLaw", name := "mk", desc := "(I)Ljava/lang/String;" } : Jvm.MethodName)) ∈ tables_1 := List.mem_of_getElem? (i := 3) rfl
theorem w_4 : (Jvm.Cond.static ({ cls := "com/example/pactum/pactum/model/CredentialsEqualsPinLaw", name := "mk", desc := "(I)Ljava/lang/String;" } : Jvm.MethodName)) ∈ tables_1 := List.mem_of_getElem? (i := 4) rfl
theorem w_5 : (Jvm.Cond.initialized "com/example/pactum/pactum/model/CredentialsEqualsPinLaw") ∈ tables_1 := List.mem_of_getElem? (i := 5) rfl
theorem w_6 : (Jvm.Cond.code ({ cls := "com/example/pactum/pactum/model/CredentialsEqualsPinLaw", name := "mk", desc := "(I)Ljava/lang/String;" } : Jvm.MethodName) method_2_code (3 : Nat) (Option.some (Jvm.ClassFile.FieldType.object "java/lang/String"))) ∈ tables_1 := List.mem_of_getElem? (i := 6) rfl
theorem w_7 : (Jvm.Cond.arrayClass Jvm.ClassFile.FieldType.char) ∈ tables_1 := List.mem_of_getElem? (i := 7) rfl
theorem w_8 : (Jvm.Cond.classLink "com/example/pactum/pactum/model/CredentialsEqualsPinLaw" (7 : Nat) "java/lang/String") ∈ tables_1 := List.mem_of_getElem? (i := 8) rfl
theorem w_9 : (Jvm.Cond.instantiable "java/lang/String" (4 : Nat)) ∈ tables_1 := List.mem_of_getElem? (i := 9) rfl
theorem w_10 : (Jvm.Cond.initialized "java/lang/String") ∈ tables_1 := List.mem_of_getElem? (i := 10) rfl
theorem w_11 : (Jvm.Cond.methodLink "com/example/pactum/pactum/model/CredentialsEqualsPinLaw" (9 : Nat) ({ cls := "java/lang/String", name := "<init>", desc := "([C)V" } : Jvm.MethodName)) ∈ tables_1 := List.mem_of_getElem? (i := 11) rfl
theorem w_12 : (Jvm.Cond.instanceMethod ({ cls := "java/lang/String", name := "<init>", desc := "([C)V" } : Jvm.MethodName)) ∈ tables_1 := List.mem_of_getElem? (i := 12) rfl
theorem w_13 : (Jvm.Cond.code ({ cls := "java/lang/String", name := "<init>", desc := "([C)V" } : Jvm.MethodName) jdk_42_method_3_code (2 : Nat) (Option.none : Option Jvm.ClassFile.FieldType)) ∈ tables_1 := List.mem_of_getElem? (i := 13) rfl
theorem w_14 : (Jvm.Cond.methodLink "java/lang/String" (27 : Nat) ({ cls := "java/lang/String", name := "<init>", desc := "([CIILjava/lang/Void;)V" } : Jvm.MethodName)) ∈ tables_1 := List.mem_of_getElem? (i := 14) rfl
theorem w_15 : (Jvm.Cond.instanceMethod ({ cls := "java/lang/String", name := "<init>", desc := "([CIILjava/lang/Void;)V" } : Jvm.MethodName)) ∈ tables_1 := List.mem_of_getElem? (i := 15) rfl
theorem w_17 : (Jvm.Cond.code ({ cls := "java/lang/String", name := "<init>", desc := "([CIILjava/lang/Void;)V" } : Jvm.MethodName) jdk_42_method_149_code (6 : Nat) (Option.none : Option Jvm.ClassFile.FieldType)) ∈ tables_1 := List.mem_of_getElem? (i := 17) rfl
theorem w_18 : (Jvm.Cond.methodLink "java/lang/String" (1 : Nat) ({ cls := "java/lang/Object", name := "<init>", desc := "()V" } : Jvm.MethodName)) ∈ tables_1 := List.mem_of_getElem? (i := 18) rfl
theorem w_19 : (Jvm.Cond.instanceMethod ({ cls := "java/lang/Object", name := "<init>", desc := "()V" } : Jvm.MethodName)) ∈ tables_1 := List.mem_of_getElem? (i := 19) rfl
theorem w_20 : (Jvm.Cond.code ({ cls := "java/lang/Object", name := "<init>", desc := "()V" } : Jvm.MethodName) object_method_1_code (1 : Nat) (Option.none : Option Jvm.ClassFile.FieldType)) ∈ tables_1 := List.mem_of_getElem? (i := 20) rfl
theorem w_21 : (Jvm.Cond.stringLink "java/lang/String" (7 : Nat) "") ∈ tables_1 := List.mem_of_getElem? (i := 21) rfl
theorem w_22 : (Jvm.Cond.arrayClass Jvm.ClassFile.FieldType.byte) ∈ tables_1 := List.mem_of_getElem? (i := 22) rfl
theorem w_23 : (Jvm.Cond.laysFinal "java/lang/String" "java/lang/String" "value" "[B") ∈ tables_1 := List.mem_of_getElem? (i := 23) rfl
theorem w_24 : (Jvm.Cond.laysFinal "java/lang/String" "java/lang/String" "coder" "B") ∈ tables_1 := List.mem_of_getElem? (i := 24) rfl
theorem w_27 : (Jvm.Cond.fieldLink "java/lang/String" (9 : Nat) "java/lang/String" "value" "[B") ∈ tables_1 := List.mem_of_getElem? (i := 27) rfl
theorem w_28 : (Jvm.Cond.fieldLink "java/lang/String" (15 : Nat) "java/lang/String" "coder" "B") ∈ tables_1 := List.mem_of_getElem? (i := 28) rfl
theorem w_29 : (Jvm.Cond.methodLink "com/example/pactum/pactum/model/CredentialsEqualsPinLaw" (20 : Nat) ({ cls := "com/example/pactum/pactum/model/Credentials", name := "<init>", desc := "(Ljava/lang/String;Ljava/lang/String;)V" } : Jvm.MethodName)) ∈ tables_1 := List.mem_of_getElem? (i := 29) rfl
theorem w_30 : (Jvm.Cond.instanceMethod ({ cls := "com/example/pactum/pactum/model/Credentials", name := "<init>", desc := "(Ljava/lang/String;Ljava/lang/String;)V" } : Jvm.MethodName)) ∈ tables_1 := List.mem_of_getElem? (i := 30) rfl
theorem w_31 : (Jvm.Cond.code ({ cls := "com/example/pactum/pactum/model/Credentials", name := "<init>", desc := "(Ljava/lang/String;Ljava/lang/String;)V" } : Jvm.MethodName) prog_6_method_1_code (3 : Nat) (Option.none : Option Jvm.ClassFile.FieldType)) ∈ tables_1 := List.mem_of_getElem? (i := 31) rfl
theorem w_32 : (Jvm.Cond.methodLink "com/example/pactum/pactum/model/Credentials" (1 : Nat) ({ cls := "java/lang/Object", name := "<init>", desc := "()V" } : Jvm.MethodName)) ∈ tables_1 := List.mem_of_getElem? (i := 32) rfl
theorem w_33 : (Jvm.Cond.fieldLink "com/example/pactum/pactum/model/Credentials" (7 : Nat) "com/example/pactum/pactum/model/Credentials" "user" "Ljava/lang/String;") ∈ tables_1 := List.mem_of_getElem? (i := 33) rfl
theorem w_34 : (Jvm.Cond.laysFinal "com/example/pactum/pactum/model/Credentials" "com/example/pactum/pactum/model/Credentials" "user" "Ljava/lang/String;") ∈ tables_1 := List.mem_of_getElem? (i := 34) rfl
theorem w_35 : (Jvm.Cond.fieldLink "com/example/pactum/pactum/model/Credentials" (13 : Nat) "com/example/pactum/pactum/model/Credentials" "password" "Ljava/lang/String;") ∈ tables_1 := List.mem_of_getElem? (i := 35) rfl
theorem w_36 : (Jvm.Cond.laysFinal "com/example/pactum/pactum/model/Credentials" "com/example/pactum/pactum/model/Credentials" "password" "Ljava/lang/String;") ∈ tables_1 := List.mem_of_getElem? (i := 36) rfl
theorem w_37 : (Jvm.Cond.methodLink "com/example/pactum/pactum/model/Credentials" (16 : Nat) ({ cls := "java/util/Objects", name := "hashCode", desc := "(Ljava/lang/Object;)I" } : Jvm.MethodName)) ∈ tables_1 := List.mem_of_getElem? (i := 37) rfl
theorem w_38 : (Jvm.Cond.static ({ cls := "java/util/Objects", name := "hashCode", desc := "(Ljava/lang/Object;)I" } : Jvm.MethodName)) ∈ tables_1 := List.mem_of_getElem? (i := 38) rfl
theorem w_39 : (Jvm.Cond.initialized "java/util/Objects") ∈ tables_1 := List.mem_of_getElem? (i := 39) rfl
theorem w_40 : (Jvm.Cond.code ({ cls := "java/util/Objects", name := "hashCode", desc := "(Ljava/lang/Object;)I" } : Jvm.MethodName) jdk_31_method_4_code (1 : Nat) (Option.some Jvm.ClassFile.FieldType.int)) ∈ tables_1 := List.mem_of_getElem? (i := 40) rfl
theorem w_41 : (Jvm.Cond.methodLink "java/util/Objects" (24 : Nat) ({ cls := "java/lang/Object", name := "hashCode", desc := "()I" } : Jvm.MethodName)) ∈ tables_1 := List.mem_of_getElem? (i := 41) rfl
theorem w_42 : (Jvm.Cond.declares ({ cls := "java/lang/Object", name := "hashCode", desc := "()I" } : Jvm.MethodName)) ∈ tables_1 := List.mem_of_getElem? (i := 42) rfl
theorem w_44 : (Jvm.Cond.selects "java/lang/String" ({ cls := "java/lang/Object", name := "hashCode", desc := "()I" } : Jvm.MethodName) ({ cls := "java/lang/String", name := "hashCode", desc := "()I" } : Jvm.MethodName)) ∈ tables_1 := List.mem_of_getElem? (i := 44) rfl
theorem w_45 : (Jvm.Cond.instanceMethod ({ cls := "java/lang/String", name := "hashCode", desc := "()I" } : Jvm.MethodName)) ∈ tables_1 := List.mem_of_getElem? (i := 45) rfl
theorem w_46 : (Jvm.Cond.code ({ cls := "java/lang/String", name := "hashCode", desc := "()I" } : Jvm.MethodName) jdk_42_method_78_code (2 : Nat) (Option.some Jvm.ClassFile.FieldType.int)) ∈ tables_1 := List.mem_of_getElem? (i := 46) rfl
theorem w_47 : (Jvm.Cond.fieldLink "java/lang/String" (19 : Nat) "java/lang/String" "hash" "I") ∈ tables_1 := List.mem_of_getElem? (i := 47) rfl
theorem w_48 : (Jvm.Cond.lays "java/lang/String" "java/lang/String" "hash" "I") ∈ tables_1 := List.mem_of_getElem? (i := 48) rfl
theorem w_49 : (Jvm.Cond.fieldLink "java/lang/String" (23 : Nat) "java/lang/String" "hashIsZero" "Z") ∈ tables_1 := List.mem_of_getElem? (i := 49) rfl
theorem w_50 : (Jvm.Cond.lays "java/lang/String" "java/lang/String" "hashIsZero" "Z") ∈ tables_1 := List.mem_of_getElem? (i := 50) rfl
theorem w_51 : (Jvm.Cond.methodLink "java/lang/String" (492 : Nat) ({ cls := "java/lang/String", name := "isLatin1", desc := "()Z" } : Jvm.MethodName)) ∈ tables_1 := List.mem_of_getElem? (i := 51) rfl
theorem w_52 : (Jvm.Cond.declares ({ cls := "java/lang/String", name := "isLatin1", desc := "()Z" } : Jvm.MethodName)) ∈ tables_1 := List.mem_of_getElem? (i := 52) rfl
theorem w_53 : (Jvm.Cond.instanceMethod ({ cls := "java/lang/String", name := "isLatin1", desc := "()Z" } : Jvm.MethodName)) ∈ tables_1 := List.mem_of_getElem? (i := 53) rfl
theorem w_54 : (Jvm.Cond.selects "java/lang/String" ({ cls := "java/lang/String", name := "isLatin1", desc := "()Z" } : Jvm.MethodName) ({ cls := "java/lang/String", name := "isLatin1", desc := "()Z" } : Jvm.MethodName)) ∈ tables_1 := List.mem_of_getElem? (i := 54) rfl
theorem w_55 : (Jvm.Cond.code ({ cls := "java/lang/String", name := "isLatin1", desc := "()Z" } : Jvm.MethodName) jdk_42_method_154_code (1 : Nat) (Option.some Jvm.ClassFile.FieldType.boolean)) ∈ tables_1 := List.mem_of_getElem? (i := 55) rfl
theorem w_56 : (Jvm.Cond.fieldLink "java/lang/String" (38 : Nat) "java/lang/String" "COMPACT_STRINGS" "Z") ∈ tables_1 := List.mem_of_getElem? (i := 56) rfl
theorem w_57 : (Jvm.Cond.methodLink "java/lang/String" (628 : Nat) ({ cls := "java/lang/StringLatin1", name := "hashCode", desc := "([B)I" } : Jvm.MethodName)) ∈ tables_1 := List.mem_of_getElem? (i := 57) rfl
theorem w_58 : (Jvm.Cond.static ({ cls := "java/lang/StringLatin1", name := "hashCode", desc := "([B)I" } : Jvm.MethodName)) ∈ tables_1 := List.mem_of_getElem? (i := 58) rfl
theorem w_59 : (Jvm.Cond.initialized "java/lang/StringLatin1") ∈ tables_1 := List.mem_of_getElem? (i := 59) rfl
theorem w_60 : (Jvm.Cond.code ({ cls := "java/lang/StringLatin1", name := "hashCode", desc := "([B)I" } : Jvm.MethodName) jdk_43_method_21_code (1 : Nat) (Option.some Jvm.ClassFile.FieldType.int)) ∈ tables_1 := List.mem_of_getElem? (i := 60) rfl
theorem w_61 : (Jvm.Cond.fieldLink "com/example/pactum/pactum/model/Credentials" (22 : Nat) "com/example/pactum/pactum/model/Credentials" "hash" "I") ∈ tables_1 := List.mem_of_getElem? (i := 61) rfl
theorem w_62 : (Jvm.Cond.laysFinal "com/example/pactum/pactum/model/Credentials" "com/example/pactum/pactum/model/Credentials" "hash" "I") ∈ tables_1 := List.mem_of_getElem? (i := 62) rfl
theorem w_63 : (Jvm.Cond.methodLink "com/example/pactum/pactum/model/CredentialsEqualsPinLaw" (23 : Nat) ({ cls := "com/example/pactum/pactum/model/Credentials", name := "equals", desc := "(Ljava/lang/Object;)Z" } : Jvm.MethodName)) ∈ tables_1 := List.mem_of_getElem? (i := 63) rfl
theorem w_64 : (Jvm.Cond.declares ({ cls := "com/example/pactum/pactum/model/Credentials", name := "equals", desc := "(Ljava/lang/Object;)Z" } : Jvm.MethodName)) ∈ tables_1 := List.mem_of_getElem? (i := 64) rfl
theorem w_65 : (Jvm.Cond.instanceMethod ({ cls := "com/example/pactum/pactum/model/Credentials", name := "equals", desc := "(Ljava/lang/Object;)Z" } : Jvm.MethodName)) ∈ tables_1 := List.mem_of_getElem? (i := 65) rfl
theorem w_66 : (Jvm.Cond.selects "com/example/pactum/pactum/model/Credentials" ({ cls := "com/example/pactum/pactum/model/Credentials", name := "equals", desc := "(Ljava/lang/Object;)Z" } : Jvm.MethodName) ({ cls := "com/example/pactum/pactum/model/Credentials", name := "equals", desc := "(Ljava/lang/Object;)Z" } : Jvm.MethodName)) ∈ tables_1 := List.mem_of_getElem? (i := 66) rfl
theorem w_67 : (Jvm.Cond.code ({ cls := "com/example/pactum/pactum/model/Credentials", name := "equals", desc := "(Ljava/lang/Object;)Z" } : Jvm.MethodName) prog_6_method_4_code (3 : Nat) (Option.some Jvm.ClassFile.FieldType.boolean)) ∈ tables_1 := List.mem_of_getElem? (i := 67) rfl
theorem w_68 : (Jvm.Cond.methodLink "java/lang/String" (177 : Nat) ({ cls := "java/lang/StringUTF16", name := "compress", desc := "([CII)[B" } : Jvm.MethodName)) ∈ tables_1 := List.mem_of_getElem? (i := 68) rfl
theorem w_69 : (Jvm.Cond.static ({ cls := "java/lang/StringUTF16", name := "compress", desc := "([CII)[B" } : Jvm.MethodName)) ∈ tables_1 := List.mem_of_getElem? (i := 69) rfl
theorem w_70 : (Jvm.Cond.initialized "java/lang/StringUTF16") ∈ tables_1 := List.mem_of_getElem? (i := 70) rfl
theorem w_71 : (Jvm.Cond.code ({ cls := "java/lang/StringUTF16", name := "compress", desc := "([CII)[B" } : Jvm.MethodName) jdk_52_method_16_code (6 : Nat) (Option.some (Jvm.ClassFile.FieldType.array Jvm.ClassFile.FieldType.byte))) ∈ tables_1 := List.mem_of_getElem? (i := 71) rfl
theorem w_72 : (Jvm.Cond.methodLink "java/lang/StringUTF16" (115 : Nat) ({ cls := "java/lang/StringUTF16", name := "compress", desc := "([CI[BII)I" } : Jvm.MethodName)) ∈ tables_1 := List.mem_of_getElem? (i := 72) rfl
theorem w_73 : (Jvm.Cond.static ({ cls := "java/lang/StringUTF16", name := "compress", desc := "([CI[BII)I" } : Jvm.MethodName)) ∈ tables_1 := List.mem_of_getElem? (i := 73) rfl
theorem w_74 : (Jvm.Cond.code ({ cls := "java/lang/StringUTF16", name := "compress", desc := "([CI[BII)I" } : Jvm.MethodName) jdk_52_method_21_code (7 : Nat) (Option.some Jvm.ClassFile.FieldType.int)) ∈ tables_1 := List.mem_of_getElem? (i := 74) rfl
theorem w_75 : (Jvm.Cond.methodLink "java/lang/String" (47 : Nat) ({ cls := "java/lang/StringUTF16", name := "coderFromArrayLen", desc := "([BI)B" } : Jvm.MethodName)) ∈ tables_1 := List.mem_of_getElem? (i := 75) rfl
theorem w_76 : (Jvm.Cond.static ({ cls := "java/lang/StringUTF16", name := "coderFromArrayLen", desc := "([BI)B" } : Jvm.MethodName)) ∈ tables_1 := List.mem_of_getElem? (i := 76) rfl
theorem w_77 : (Jvm.Cond.code ({ cls := "java/lang/StringUTF16", name := "coderFromArrayLen", desc := "([BI)B" } : Jvm.MethodName) jdk_52_method_15_code (2 : Nat) (Option.some Jvm.ClassFile.FieldType.byte)) ∈ tables_1 := List.mem_of_getElem? (i := 77) rfl
theorem w_78 : (Jvm.Cond.methodLink "java/lang/StringLatin1" (84 : Nat) ({ cls := "jdk/internal/util/ArraysSupport", name := "vectorizedHashCode", desc := "(Ljava/lang/Object;IIII)I" } : Jvm.MethodName)) ∈ tables_1 := List.mem_of_getElem? (i := 78) rfl
theorem w_79 : (Jvm.Cond.static ({ cls := "jdk/internal/util/ArraysSupport", name := "vectorizedHashCode", desc := "(Ljava/lang/Object;IIII)I" } : Jvm.MethodName)) ∈ tables_1 := List.mem_of_getElem? (i := 79) rfl
theorem w_80 : (Jvm.Cond.initialized "jdk/internal/util/ArraysSupport") ∈ tables_1 := List.mem_of_getElem? (i := 80) rfl
theorem w_81 : (Jvm.Cond.code ({ cls := "jdk/internal/util/ArraysSupport", name := "vectorizedHashCode", desc := "(Ljava/lang/Object;IIII)I" } : Jvm.MethodName) jdk_48_method_4_code (5 : Nat) (Option.some Jvm.ClassFile.FieldType.int)) ∈ tables_1 := List.mem_of_getElem? (i := 81) rfl
theorem w_82 : (Jvm.Cond.classLink "jdk/internal/util/ArraysSupport" (60 : Nat) "[B") ∈ tables_1 := List.mem_of_getElem? (i := 82) rfl
theorem w_84 : (Jvm.Cond.methodLink "jdk/internal/util/ArraysSupport" (62 : Nat) ({ cls := "jdk/internal/util/ArraysSupport", name := "signedHashCode", desc := "(I[BII)I" } : Jvm.MethodName)) ∈ tables_1 := List.mem_of_getElem? (i := 84) rfl
theorem w_85 : (Jvm.Cond.static ({ cls := "jdk/internal/util/ArraysSupport", name := "signedHashCode", desc := "(I[BII)I" } : Jvm.MethodName)) ∈ tables_1 := List.mem_of_getElem? (i := 85) rfl
theorem w_86 : (Jvm.Cond.code ({ cls := "jdk/internal/util/ArraysSupport", name := "signedHashCode", desc := "(I[BII)I" } : Jvm.MethodName) jdk_48_method_5_code (6 : Nat) (Option.some Jvm.ClassFile.FieldType.int)) ∈ tables_1 := List.mem_of_getElem? (i := 86) rfl
theorem w_87 : (Jvm.Cond.methodLink "com/example/pactum/pactum/model/CredentialsEqualsPinLaw" (27 : Nat) ({ cls := "com/example/pactum/pactum/model/CredentialsEqualsPinLaw", name := "sameStr", desc := "(II)Z" } : Jvm.MethodName)) ∈ tables_1 := List.mem_of_getElem? (i := 87) rfl
theorem w_88 : (Jvm.Cond.static ({ cls := "com/example/pactum/pactum/model/CredentialsEqualsPinLaw", name := "sameStr", desc := "(II)Z" } : Jvm.MethodName)) ∈ tables_1 := List.mem_of_getElem? (i := 88) rfl
theorem w_89 : (Jvm.Cond.code ({ cls := "com/example/pactum/pactum/model/CredentialsEqualsPinLaw", name := "sameStr", desc := "(II)Z" } : Jvm.MethodName) method_3_code (6 : Nat) (Option.some Jvm.ClassFile.FieldType.boolean)) ∈ tables_1 := List.mem_of_getElem? (i := 89) rfl
theorem w_90 : (Jvm.Cond.classLink "com/example/pactum/pactum/model/Credentials" (8 : Nat) "com/example/pactum/pactum/model/Credentials") ∈ tables_1 := List.mem_of_getElem? (i := 90) rfl
theorem w_92 : (Jvm.Cond.methodLink "com/example/pactum/pactum/model/Credentials" (26 : Nat) ({ cls := "java/util/Objects", name := "equals", desc := "(Ljava/lang/Object;Ljava/lang/Object;)Z" } : Jvm.MethodName)) ∈ tables_1 := List.mem_of_getElem? (i := 92) rfl
theorem w_93 : (Jvm.Cond.static ({ cls := "java/util/Objects", name := "equals", desc := "(Ljava/lang/Object;Ljava/lang/Object;)Z" } : Jvm.MethodName)) ∈ tables_1 := List.mem_of_getElem? (i := 93) rfl
theorem w_94 : (Jvm.Cond.code ({ cls := "java/util/Objects", name := "equals", desc := "(Ljava/lang/Object;Ljava/lang/Object;)Z" } : Jvm.MethodName) jdk_31_method_2_code (2 : Nat) (Option.some Jvm.ClassFile.FieldType.boolean)) ∈ tables_1 := List.mem_of_getElem? (i := 94) rfl
theorem w_95 : (Jvm.Cond.methodLink "java/util/Objects" (14 : Nat) ({ cls := "java/lang/Object", name := "equals", desc := "(Ljava/lang/Object;)Z" } : Jvm.MethodName)) ∈ tables_1 := List.mem_of_getElem? (i := 95) rfl
theorem w_96 : (Jvm.Cond.declares ({ cls := "java/lang/Object", name := "equals", desc := "(Ljava/lang/Object;)Z" } : Jvm.MethodName)) ∈ tables_1 := List.mem_of_getElem? (i := 96) rfl
theorem w_98 : (Jvm.Cond.selects "java/lang/String" ({ cls := "java/lang/Object", name := "equals", desc := "(Ljava/lang/Object;)Z" } : Jvm.MethodName) ({ cls := "java/lang/String", name := "equals", desc := "(Ljava/lang/Object;)Z" } : Jvm.MethodName)) ∈ tables_1 := List.mem_of_getElem? (i := 98) rfl
theorem w_99 : (Jvm.Cond.instanceMethod ({ cls := "java/lang/String", name := "equals", desc := "(Ljava/lang/Object;)Z" } : Jvm.MethodName)) ∈ tables_1 := List.mem_of_getElem? (i := 99) rfl
theorem w_100 : (Jvm.Cond.code ({ cls := "java/lang/String", name := "equals", desc := "(Ljava/lang/Object;)Z" } : Jvm.MethodName) jdk_42_method_66_code (3 : Nat) (Option.some Jvm.ClassFile.FieldType.boolean)) ∈ tables_1 := List.mem_of_getElem? (i := 100) rfl
theorem w_105 : (Jvm.Cond.fieldLink "com/example/pactum/pactum/model/CredentialsEqualsPinLaw" (31 : Nat) "com/example/pactum/pactum/model/Credentials" "OWN" "Lcom/example/pactum/pactum/model/Credentials;") ∈ tables_1 := List.mem_of_getElem? (i := 105) rfl
theorem w_106 : (Jvm.Cond.laysStatic "com/example/pactum/pactum/model/Credentials" "OWN" "Lcom/example/pactum/pactum/model/Credentials;") ∈ tables_1 := List.mem_of_getElem? (i := 106) rfl
theorem w_107 : (Jvm.Cond.superclass "java/lang/String" "java/lang/Object") ∈ tables_1 := List.mem_of_getElem? (i := 107) rfl
theorem w_108 : (Jvm.Cond.noSuperclass "java/lang/Object") ∈ tables_1 := List.mem_of_getElem? (i := 108) rfl
theorem d_jdk_52m21_0 : decode jdk_52_method_21_code 0 = .ok (.iconst 0, 1) := by decide +kernel
theorem d_jdk_52m21_1 : decode jdk_52_method_21_code 1 = .ok (.istore 5, 2) := by decide +kernel
theorem d_jdk_52m21_3 : decode jdk_52_method_21_code 3 = .ok (.iload 5, 2) := by decide +kernel
theorem d_jdk_52m21_5 : decode jdk_52_method_21_code 5 = .ok (.iload 4, 2) := by decide +kernel
theorem d_jdk_52m21_7 : decode jdk_52_method_21_code 7 = .ok (.if_icmp .ge 37, 3) := by decide +kernel
theorem d_jdk_52m21_10 : decode jdk_52_method_21_code 10 = .ok (.aload_n 0, 1) := by decide +kernel
theorem d_jdk_52m21_11 : decode jdk_52_method_21_code 11 = .ok (.iload_n 1, 1) := by decide +kernel
theorem d_jdk_52m21_12 : decode jdk_52_method_21_code 12 = .ok (.caload, 1) := by decide +kernel
theorem d_jdk_52m21_13 : decode jdk_52_method_21_code 13 = .ok (.istore 6, 2) := by decide +kernel
theorem d_jdk_52m21_15 : decode jdk_52_method_21_code 15 = .ok (.iload 6, 2) := by decide +kernel
theorem d_jdk_52m21_17 : decode jdk_52_method_21_code 17 = .ok (.sipush 255, 3) := by decide +kernel
theorem d_jdk_52m21_20 : decode jdk_52_method_21_code 20 = .ok (.if_icmp .le 6, 3) := by decide +kernel
theorem d_jdk_52m21_26 : decode jdk_52_method_21_code 26 = .ok (.aload_n 2, 1) := by decide +kernel
theorem d_jdk_52m21_27 : decode jdk_52_method_21_code 27 = .ok (.iload_n 3, 1) := by decide +kernel
theorem d_jdk_52m21_28 : decode jdk_52_method_21_code 28 = .ok (.iload 6, 2) := by decide +kernel
theorem d_jdk_52m21_30 : decode jdk_52_method_21_code 30 = .ok (.i2b, 1) := by decide +kernel
theorem d_jdk_52m21_31 : decode jdk_52_method_21_code 31 = .ok (.bastore, 1) := by decide +kernel
theorem d_jdk_52m21_32 : decode jdk_52_method_21_code 32 = .ok (.iinc 1 1, 3) := by decide +kernel
theorem d_jdk_52m21_35 : decode jdk_52_method_21_code 35 = .ok (.iinc 3 1, 3) := by decide +kernel
theorem d_jdk_52m21_38 : decode jdk_52_method_21_code 38 = .ok (.iinc 5 1, 3) := by decide +kernel
theorem d_jdk_52m21_41 : decode jdk_52_method_21_code 41 = .ok (.goto (-38), 3) := by decide +kernel
theorem d_jdk_52m21_44 : decode jdk_52_method_21_code 44 = .ok (.iload 4, 2) := by decide +kernel
theorem d_jdk_52m21_46 : decode jdk_52_method_21_code 46 = .ok (.ireturn, 1) := by decide +kernel
theorem d_jdk_52m16_0 : decode jdk_52_method_16_code 0 = .ok (.iload_n 2, 1) := by decide +kernel
theorem d_jdk_52m16_1 : decode jdk_52_method_16_code 1 = .ok (.newarray .byte, 2) := by decide +kernel
theorem d_jdk_52m16_3 : decode jdk_52_method_16_code 3 = .ok (.astore_n 3, 1) := by decide +kernel
theorem d_jdk_52m16_4 : decode jdk_52_method_16_code 4 = .ok (.aload_n 0, 1) := by decide +kernel
theorem d_jdk_52m16_5 : decode jdk_52_method_16_code 5 = .ok (.iload_n 1, 1) := by decide +kernel
theorem d_jdk_52m16_6 : decode jdk_52_method_16_code 6 = .ok (.aload_n 3, 1) := by decide +kernel
theorem d_jdk_52m16_7 : decode jdk_52_method_16_code 7 = .ok (.iconst 0, 1) := by decide +kernel
theorem d_jdk_52m16_8 : decode jdk_52_method_16_code 8 = .ok (.iload_n 2, 1) := by decide +kernel
theorem d_jdk_52m16_9 : decode jdk_52_method_16_code 9 = .ok (.invokestatic 115, 3) := by decide +kernel
theorem d_jdk_52m16_12 : decode jdk_52_method_16_code 12 = .ok (.istore 4, 2) := by decide +kernel
theorem d_jdk_52m16_14 : decode jdk_52_method_16_code 14 = .ok (.iload 4, 2) := by decide +kernel
theorem d_jdk_52m16_16 : decode jdk_52_method_16_code 16 = .ok (.iload_n 2, 1) := by decide +kernel
theorem d_jdk_52m16_17 : decode jdk_52_method_16_code 17 = .ok (.if_icmp .eq 40, 3) := by decide +kernel
theorem d_jdk_52m16_57 : decode jdk_52_method_16_code 57 = .ok (.aload_n 3, 1) := by decide +kernel
theorem d_jdk_52m16_58 : decode jdk_52_method_16_code 58 = .ok (.areturn, 1) := by decide +kernel
theorem d_jdk_52m15_0 : decode jdk_52_method_15_code 0 = .ok (.iload_n 1, 1) := by decide +kernel
theorem d_jdk_52m15_1 : decode jdk_52_method_15_code 1 = .ok (.aload_n 0, 1) := by decide +kernel
theorem d_jdk_52m15_2 : decode jdk_52_method_15_code 2 = .ok (.arraylength, 1) := by decide +kernel
theorem d_jdk_52m15_3 : decode jdk_52_method_15_code 3 = .ok (.isub, 1) := by decide +kernel
theorem d_jdk_52m15_4 : decode jdk_52_method_15_code 4 = .ok (.bipush 31, 2) := by decide +kernel
theorem d_jdk_52m15_6 : decode jdk_52_method_15_code 6 = .ok (.iushr, 1) := by decide +kernel
theorem d_jdk_52m15_7 : decode jdk_52_method_15_code 7 = .ok (.i2b, 1) := by decide +kernel
theorem d_jdk_52m15_8 : decode jdk_52_method_15_code 8 = .ok (.ireturn, 1) := by decide +kernel
theorem d_jdk_42m149_0 : decode jdk_42_method_149_code 0 = .ok (.aload_n 0, 1) := by decide +kernel
theorem d_jdk_42m149_1 : decode jdk_42_method_149_code 1 = .ok (.invokespecial 1, 3) := by decide +kernel
theorem d_jdk_42m149_4 : decode jdk_42_method_149_code 4 = .ok (.iload_n 3, 1) := by decide +kernel
theorem d_jdk_42m149_5 : decode jdk_42_method_149_code 5 = .ok (.ifCond .ne 22, 3) := by decide +kernel
theorem d_jdk_42m149_27 : decode jdk_42_method_149_code 27 = .ok (.getstatic 38, 3) := by decide +kernel
theorem d_jdk_42m149_30 : decode jdk_42_method_149_code 30 = .ok (.ifCond .eq 28, 3) := by decide +kernel
theorem d_jdk_42m149_33 : decode jdk_42_method_149_code 33 = .ok (.aload_n 1, 1) := by decide +kernel
theorem d_jdk_42m149_34 : decode jdk_42_method_149_code 34 = .ok (.iload_n 2, 1) := by decide +kernel
theorem d_jdk_42m149_35 : decode jdk_42_method_149_code 35 = .ok (.iload_n 3, 1) := by decide +kernel
theorem d_jdk_42m149_36 : decode jdk_42_method_149_code 36 = .ok (.invokestatic 177, 3) := by decide +kernel
theorem d_jdk_42m149_39 : decode jdk_42_method_149_code 39 = .ok (.astore 5, 2) := by decide +kernel
theorem d_jdk_42m149_41 : decode jdk_42_method_149_code 41 = .ok (.aload_n 0, 1) := by decide +kernel
theorem d_jdk_42m149_42 : decode jdk_42_method_149_code 42 = .ok (.aload 5, 2) := by decide +kernel
theorem d_jdk_42m149_44 : decode jdk_42_method_149_code 44 = .ok (.iload_n 3, 1) := by decide +kernel
theorem d_jdk_42m149_45 : decode jdk_42_method_149_code 45 = .ok (.invokestatic 47, 3) := by decide +kernel
theorem d_jdk_42m149_48 : decode jdk_42_method_149_code 48 = .ok (.putfield 15, 3) := by decide +kernel
theorem d_jdk_42m149_51 : decode jdk_42_method_149_code 51 = .ok (.aload_n 0, 1) := by decide +kernel
theorem d_jdk_42m149_52 : decode jdk_42_method_149_code 52 = .ok (.aload 5, 2) := by decide +kernel
theorem d_jdk_42m149_54 : decode jdk_42_method_149_code 54 = .ok (.putfield 9, 3) := by decide +kernel
theorem d_jdk_42m149_57 : decode jdk_42_method_149_code 57 = .ok (.return_, 1) := by decide +kernel
theorem d_jdk_42m3_0 : decode jdk_42_method_3_code 0 = .ok (.aload_n 0, 1) := by decide +kernel
theorem d_jdk_42m3_1 : decode jdk_42_method_3_code 1 = .ok (.aload_n 1, 1) := by decide +kernel
theorem d_jdk_42m3_2 : decode jdk_42_method_3_code 2 = .ok (.iconst 0, 1) := by decide +kernel
theorem d_jdk_42m3_3 : decode jdk_42_method_3_code 3 = .ok (.aload_n 1, 1) := by decide +kernel
theorem d_jdk_42m3_4 : decode jdk_42_method_3_code 4 = .ok (.arraylength, 1) := by decide +kernel
theorem d_jdk_42m3_5 : decode jdk_42_method_3_code 5 = .ok (.aconst_null, 1) := by decide +kernel
theorem d_jdk_42m3_6 : decode jdk_42_method_3_code 6 = .ok (.invokespecial 27, 3) := by decide +kernel
theorem d_jdk_42m3_9 : decode jdk_42_method_3_code 9 = .ok (.return_, 1) := by decide +kernel
theorem d_jdk_42m149_8 : decode jdk_42_method_149_code 8 = .ok (.aload_n 0, 1) := by decide +kernel
theorem d_jdk_42m149_9 : decode jdk_42_method_149_code 9 = .ok (.ldc 7, 2) := by decide +kernel
theorem d_jdk_42m149_11 : decode jdk_42_method_149_code 11 = .ok (.getfield 9, 3) := by decide +kernel
theorem d_jdk_42m149_14 : decode jdk_42_method_149_code 14 = .ok (.putfield 9, 3) := by decide +kernel
theorem d_jdk_42m149_17 : decode jdk_42_method_149_code 17 = .ok (.aload_n 0, 1) := by decide +kernel
theorem d_jdk_42m149_18 : decode jdk_42_method_149_code 18 = .ok (.ldc 7, 2) := by decide +kernel
theorem d_jdk_42m149_20 : decode jdk_42_method_149_code 20 = .ok (.getfield 15, 3) := by decide +kernel
theorem d_jdk_42m149_23 : decode jdk_42_method_149_code 23 = .ok (.putfield 15, 3) := by decide +kernel
theorem d_jdk_42m149_26 : decode jdk_42_method_149_code 26 = .ok (.return_, 1) := by decide +kernel
theorem d_method_2_0 : decode method_2_code 0 = .ok (.iload_n 0, 1) := by decide +kernel
theorem d_method_2_1 : decode method_2_code 1 = .ok (.iconst 3, 1) := by decide +kernel
theorem d_method_2_2 : decode method_2_code 2 = .ok (.iand, 1) := by decide +kernel
theorem d_method_2_3 : decode method_2_code 3 = .ok (.ifCond .ne 5, 3) := by decide +kernel
theorem d_method_2_6 : decode method_2_code 6 = .ok (.aconst_null, 1) := by decide +kernel
theorem d_method_2_7 : decode method_2_code 7 = .ok (.areturn, 1) := by decide +kernel
theorem d_method_2_8 : decode method_2_code 8 = .ok (.iload_n 0, 1) := by decide +kernel
theorem d_method_2_9 : decode method_2_code 9 = .ok (.iconst 2, 1) := by decide +kernel
theorem d_method_2_10 : decode method_2_code 10 = .ok (.iushr, 1) := by decide +kernel
theorem d_method_2_11 : decode method_2_code 11 = .ok (.iconst 3, 1) := by decide +kernel
theorem d_method_2_12 : decode method_2_code 12 = .ok (.iand, 1) := by decide +kernel
theorem d_method_2_13 : decode method_2_code 13 = .ok (.istore_n 1, 1) := by decide +kernel
theorem d_method_2_14 : decode method_2_code 14 = .ok (.iload_n 1, 1) := by decide +kernel
theorem d_method_2_15 : decode method_2_code 15 = .ok (.newarray .char, 2) := by decide +kernel
theorem d_method_2_17 : decode method_2_code 17 = .ok (.astore_n 2, 1) := by decide +kernel
theorem d_method_2_18 : decode method_2_code 18 = .ok (.iload_n 1, 1) := by decide +kernel
theorem d_method_2_19 : decode method_2_code 19 = .ok (.ifCond .le 14, 3) := by decide +kernel
theorem d_method_2_33 : decode method_2_code 33 = .ok (.iload_n 1, 1) := by decide +kernel
theorem d_method_2_34 : decode method_2_code 34 = .ok (.iconst 1, 1) := by decide +kernel
theorem d_method_2_35 : decode method_2_code 35 = .ok (.if_icmp .le 15, 3) := by decide +kernel
theorem d_method_2_50 : decode method_2_code 50 = .ok (.iload_n 1, 1) := by decide +kernel
theorem d_method_2_51 : decode method_2_code 51 = .ok (.iconst 2, 1) := by decide +kernel
theorem d_method_2_52 : decode method_2_code 52 = .ok (.if_icmp .le 15, 3) := by decide +kernel
theorem d_method_2_67 : decode method_2_code 67 = .ok (.new 7, 3) := by decide +kernel
theorem d_method_2_70 : decode method_2_code 70 = .ok (.dup, 1) := by decide +kernel
theorem d_method_2_71 : decode method_2_code 71 = .ok (.aload_n 2, 1) := by decide +kernel
theorem d_method_2_72 : decode method_2_code 72 = .ok (.invokespecial 9, 3) := by decide +kernel
theorem d_method_2_75 : decode method_2_code 75 = .ok (.areturn, 1) := by decide +kernel
theorem d_method_2_22 : decode method_2_code 22 = .ok (.aload_n 2, 1) := by decide +kernel
theorem d_method_2_23 : decode method_2_code 23 = .ok (.iconst 0, 1) := by decide +kernel
theorem d_method_2_24 : decode method_2_code 24 = .ok (.iload_n 0, 1) := by decide +kernel
theorem d_method_2_25 : decode method_2_code 25 = .ok (.iconst 4, 1) := by decide +kernel
theorem d_method_2_26 : decode method_2_code 26 = .ok (.iushr, 1) := by decide +kernel
theorem d_method_2_27 : decode method_2_code 27 = .ok (.sipush 255, 3) := by decide +kernel
theorem d_method_2_30 : decode method_2_code 30 = .ok (.iand, 1) := by decide +kernel
theorem d_method_2_31 : decode method_2_code 31 = .ok (.i2c, 1) := by decide +kernel
theorem d_method_2_32 : decode method_2_code 32 = .ok (.castore, 1) := by decide +kernel
theorem d_method_2_38 : decode method_2_code 38 = .ok (.aload_n 2, 1) := by decide +kernel
theorem d_method_2_39 : decode method_2_code 39 = .ok (.iconst 1, 1) := by decide +kernel
theorem d_method_2_40 : decode method_2_code 40 = .ok (.iload_n 0, 1) := by decide +kernel
theorem d_method_2_41 : decode method_2_code 41 = .ok (.bipush 12, 2) := by decide +kernel
theorem d_method_2_43 : decode method_2_code 43 = .ok (.iushr, 1) := by decide +kernel
theorem d_method_2_44 : decode method_2_code 44 = .ok (.sipush 255, 3) := by decide +kernel
theorem d_method_2_47 : decode method_2_code 47 = .ok (.iand, 1) := by decide +kernel
theorem d_method_2_48 : decode method_2_code 48 = .ok (.i2c, 1) := by decide +kernel
theorem d_method_2_49 : decode method_2_code 49 = .ok (.castore, 1) := by decide +kernel
theorem d_method_2_55 : decode method_2_code 55 = .ok (.aload_n 2, 1) := by decide +kernel
theorem d_method_2_56 : decode method_2_code 56 = .ok (.iconst 2, 1) := by decide +kernel
theorem d_method_2_57 : decode method_2_code 57 = .ok (.iload_n 0, 1) := by decide +kernel
theorem d_method_2_58 : decode method_2_code 58 = .ok (.bipush 20, 2) := by decide +kernel
theorem d_method_2_60 : decode method_2_code 60 = .ok (.iushr, 1) := by decide +kernel
theorem d_method_2_61 : decode method_2_code 61 = .ok (.sipush 255, 3) := by decide +kernel
theorem d_method_2_64 : decode method_2_code 64 = .ok (.iand, 1) := by decide +kernel
theorem d_method_2_65 : decode method_2_code 65 = .ok (.i2c, 1) := by decide +kernel
theorem d_method_2_66 : decode method_2_code 66 = .ok (.castore, 1) := by decide +kernel
theorem d_jdk_42m154_0 : decode jdk_42_method_154_code 0 = .ok (.getstatic 38, 3) := by decide +kernel
theorem d_jdk_42m154_3 : decode jdk_42_method_154_code 3 = .ok (.ifCond .eq 14, 3) := by decide +kernel
theorem d_jdk_42m154_6 : decode jdk_42_method_154_code 6 = .ok (.aload_n 0, 1) := by decide +kernel
theorem d_jdk_42m154_7 : decode jdk_42_method_154_code 7 = .ok (.getfield 15, 3) := by decide +kernel
theorem d_jdk_42m154_10 : decode jdk_42_method_154_code 10 = .ok (.ifCond .ne 7, 3) := by decide +kernel
theorem d_jdk_42m154_13 : decode jdk_42_method_154_code 13 = .ok (.iconst 1, 1) := by decide +kernel
theorem d_jdk_42m154_14 : decode jdk_42_method_154_code 14 = .ok (.goto 4, 3) := by decide +kernel
theorem d_jdk_42m154_18 : decode jdk_42_method_154_code 18 = .ok (.ireturn, 1) := by decide +kernel
theorem d_jdk_42m154_17 : decode jdk_42_method_154_code 17 = .ok (.iconst 0, 1) := by decide +kernel
theorem d_jdk_43m21_0 : decode jdk_43_method_21_code 0 = .ok (.aload_n 0, 1) := by decide +kernel
theorem d_jdk_43m21_1 : decode jdk_43_method_21_code 1 = .ok (.arraylength, 1) := by decide +kernel
theorem d_jdk_43m21_2 : decode jdk_43_method_21_code 2 = .ok (.lookupswitch 40 #[(0, 26), (1, 30)], 26) := by decide +kernel
theorem d_jdk_43m21_28 : decode jdk_43_method_21_code 28 = .ok (.iconst 0, 1) := by decide +kernel
theorem d_jdk_43m21_29 : decode jdk_43_method_21_code 29 = .ok (.goto 22, 3) := by decide +kernel
theorem d_jdk_43m21_51 : decode jdk_43_method_21_code 51 = .ok (.ireturn, 1) := by decide +kernel
theorem d_jdk_42m78_0 : decode jdk_42_method_78_code 0 = .ok (.aload_n 0, 1) := by decide +kernel
theorem d_jdk_42m78_1 : decode jdk_42_method_78_code 1 = .ok (.getfield 19, 3) := by decide +kernel
theorem d_jdk_42m78_4 : decode jdk_42_method_78_code 4 = .ok (.istore_n 1, 1) := by decide +kernel
theorem d_jdk_42m78_5 : decode jdk_42_method_78_code 5 = .ok (.iload_n 1, 1) := by decide +kernel
theorem d_jdk_42m78_6 : decode jdk_42_method_78_code 6 = .ok (.ifCond .ne 52, 3) := by decide +kernel
theorem d_jdk_42m78_9 : decode jdk_42_method_78_code 9 = .ok (.aload_n 0, 1) := by decide +kernel
theorem d_jdk_42m78_10 : decode jdk_42_method_78_code 10 = .ok (.getfield 23, 3) := by decide +kernel
theorem d_jdk_42m78_13 : decode jdk_42_method_78_code 13 = .ok (.ifCond .ne 45, 3) := by decide +kernel
theorem d_jdk_42m78_16 : decode jdk_42_method_78_code 16 = .ok (.aload_n 0, 1) := by decide +kernel
theorem d_jdk_42m78_17 : decode jdk_42_method_78_code 17 = .ok (.invokevirtual 492, 3) := by decide +kernel
theorem d_jdk_42m78_20 : decode jdk_42_method_78_code 20 = .ok (.ifCond .eq 13, 3) := by decide +kernel
theorem d_jdk_42m78_23 : decode jdk_42_method_78_code 23 = .ok (.aload_n 0, 1) := by decide +kernel
theorem d_jdk_42m78_24 : decode jdk_42_method_78_code 24 = .ok (.getfield 9, 3) := by decide +kernel
theorem d_jdk_42m78_27 : decode jdk_42_method_78_code 27 = .ok (.invokestatic 628, 3) := by decide +kernel
theorem d_jdk_42m78_30 : decode jdk_42_method_78_code 30 = .ok (.goto 10, 3) := by decide +kernel
theorem d_jdk_42m78_40 : decode jdk_42_method_78_code 40 = .ok (.istore_n 1, 1) := by decide +kernel
theorem d_jdk_42m78_41 : decode jdk_42_method_78_code 41 = .ok (.iload_n 1, 1) := by decide +kernel
theorem d_jdk_42m78_42 : decode jdk_42_method_78_code 42 = .ok (.ifCond .ne 11, 3) := by decide +kernel
theorem d_jdk_42m78_45 : decode jdk_42_method_78_code 45 = .ok (.aload_n 0, 1) := by decide +kernel
theorem d_jdk_42m78_46 : decode jdk_42_method_78_code 46 = .ok (.iconst 1, 1) := by decide +kernel
theorem d_jdk_42m78_47 : decode jdk_42_method_78_code 47 = .ok (.putfield 23, 3) := by decide +kernel
theorem d_jdk_42m78_50 : decode jdk_42_method_78_code 50 = .ok (.goto 8, 3) := by decide +kernel
theorem d_jdk_42m78_58 : decode jdk_42_method_78_code 58 = .ok (.iload_n 1, 1) := by decide +kernel
theorem d_jdk_42m78_59 : decode jdk_42_method_78_code 59 = .ok (.ireturn, 1) := by decide +kernel
theorem d_jdk_42m78_53 : decode jdk_42_method_78_code 53 = .ok (.aload_n 0, 1) := by decide +kernel
theorem d_jdk_42m78_54 : decode jdk_42_method_78_code 54 = .ok (.iload_n 1, 1) := by decide +kernel
theorem d_jdk_42m78_55 : decode jdk_42_method_78_code 55 = .ok (.putfield 19, 3) := by decide +kernel
theorem d_jdk_43m21_32 : decode jdk_43_method_21_code 32 = .ok (.aload_n 0, 1) := by decide +kernel
theorem d_jdk_43m21_33 : decode jdk_43_method_21_code 33 = .ok (.iconst 0, 1) := by decide +kernel
theorem d_jdk_43m21_34 : decode jdk_43_method_21_code 34 = .ok (.baload, 1) := by decide +kernel
theorem d_jdk_43m21_35 : decode jdk_43_method_21_code 35 = .ok (.sipush 255, 3) := by decide +kernel
theorem d_jdk_43m21_38 : decode jdk_43_method_21_code 38 = .ok (.iand, 1) := by decide +kernel
theorem d_jdk_43m21_39 : decode jdk_43_method_21_code 39 = .ok (.goto 12, 3) := by decide +kernel
theorem d_jdk_48m5_0 : decode jdk_48_method_5_code 0 = .ok (.iload_n 2, 1) := by decide +kernel
theorem d_jdk_48m5_1 : decode jdk_48_method_5_code 1 = .ok (.iload_n 3, 1) := by decide +kernel
theorem d_jdk_48m5_2 : decode jdk_48_method_5_code 2 = .ok (.iadd, 1) := by decide +kernel
theorem d_jdk_48m5_3 : decode jdk_48_method_5_code 3 = .ok (.istore 4, 2) := by decide +kernel
theorem d_jdk_48m5_5 : decode jdk_48_method_5_code 5 = .ok (.iload_n 2, 1) := by decide +kernel
theorem d_jdk_48m5_6 : decode jdk_48_method_5_code 6 = .ok (.istore 5, 2) := by decide +kernel
theorem d_jdk_48m5_8 : decode jdk_48_method_5_code 8 = .ok (.iload 5, 2) := by decide +kernel
theorem d_jdk_48m5_10 : decode jdk_48_method_5_code 10 = .ok (.iload 4, 2) := by decide +kernel
theorem d_jdk_48m5_12 : decode jdk_48_method_5_code 12 = .ok (.if_icmp .ge 23, 3) := by decide +kernel
theorem d_jdk_48m5_15 : decode jdk_48_method_5_code 15 = .ok (.bipush 31, 2) := by decide +kernel
theorem d_jdk_48m5_17 : decode jdk_48_method_5_code 17 = .ok (.iload_n 0, 1) := by decide +kernel
theorem d_jdk_48m5_18 : decode jdk_48_method_5_code 18 = .ok (.imul, 1) := by decide +kernel
theorem d_jdk_48m5_19 : decode jdk_48_method_5_code 19 = .ok (.aload_n 1, 1) := by decide +kernel
theorem d_jdk_48m5_20 : decode jdk_48_method_5_code 20 = .ok (.iload 5, 2) := by decide +kernel
theorem d_jdk_48m5_22 : decode jdk_48_method_5_code 22 = .ok (.baload, 1) := by decide +kernel
theorem d_jdk_48m5_23 : decode jdk_48_method_5_code 23 = .ok (.sipush 255, 3) := by decide +kernel
theorem d_jdk_48m5_26 : decode jdk_48_method_5_code 26 = .ok (.iand, 1) := by decide +kernel
theorem d_jdk_48m5_27 : decode jdk_48_method_5_code 27 = .ok (.iadd, 1) := by decide +kernel
theorem d_jdk_48m5_28 : decode jdk_48_method_5_code 28 = .ok (.istore_n 0, 1) := by decide +kernel
theorem d_jdk_48m5_29 : decode jdk_48_method_5_code 29 = .ok (.iinc 5 1, 3) := by decide +kernel
theorem d_jdk_48m5_32 : decode jdk_48_method_5_code 32 = .ok (.goto (-24), 3) := by decide +kernel
theorem d_jdk_48m5_35 : decode jdk_48_method_5_code 35 = .ok (.iload_n 0, 1) := by decide +kernel
theorem d_jdk_48m5_36 : decode jdk_48_method_5_code 36 = .ok (.ireturn, 1) := by decide +kernel
theorem d_jdk_48m4_0 : decode jdk_48_method_4_code 0 = .ok (.iload 4, 2) := by decide +kernel
theorem d_jdk_48m4_2 : decode jdk_48_method_4_code 2 = .ok (.tableswitch 127 4 10 #[42, 55, 127, 127, 88, 101, 114], 42) := by decide +kernel
theorem d_jdk_48m4_44 : decode jdk_48_method_4_code 44 = .ok (.iload_n 3, 1) := by decide +kernel
theorem d_jdk_48m4_45 : decode jdk_48_method_4_code 45 = .ok (.aload_n 0, 1) := by decide +kernel
theorem d_jdk_48m4_46 : decode jdk_48_method_4_code 46 = .ok (.checkcast 60, 3) := by decide +kernel
theorem d_jdk_48m4_49 : decode jdk_48_method_4_code 49 = .ok (.iload_n 1, 1) := by decide +kernel
theorem d_jdk_48m4_50 : decode jdk_48_method_4_code 50 = .ok (.iload_n 2, 1) := by decide +kernel
theorem d_jdk_48m4_51 : decode jdk_48_method_4_code 51 = .ok (.invokestatic 62, 3) := by decide +kernel
theorem d_jdk_48m4_54 : decode jdk_48_method_4_code 54 = .ok (.goto 103, 3) := by decide +kernel
theorem d_jdk_48m4_157 : decode jdk_48_method_4_code 157 = .ok (.ireturn, 1) := by decide +kernel
theorem d_jdk_43m21_42 : decode jdk_43_method_21_code 42 = .ok (.aload_n 0, 1) := by decide +kernel
theorem d_jdk_43m21_43 : decode jdk_43_method_21_code 43 = .ok (.iconst 0, 1) := by decide +kernel
theorem d_jdk_43m21_44 : decode jdk_43_method_21_code 44 = .ok (.aload_n 0, 1) := by decide +kernel
theorem d_jdk_43m21_45 : decode jdk_43_method_21_code 45 = .ok (.arraylength, 1) := by decide +kernel
theorem d_jdk_43m21_46 : decode jdk_43_method_21_code 46 = .ok (.iconst 0, 1) := by decide +kernel
theorem d_jdk_43m21_47 : decode jdk_43_method_21_code 47 = .ok (.iconst 4, 1) := by decide +kernel
theorem d_jdk_43m21_48 : decode jdk_43_method_21_code 48 = .ok (.invokestatic 84, 3) := by decide +kernel
theorem d_jdk_31m4_0 : decode jdk_31_method_4_code 0 = .ok (.aload_n 0, 1) := by decide +kernel
theorem d_jdk_31m4_1 : decode jdk_31_method_4_code 1 = .ok (.ifnull 10, 3) := by decide +kernel
theorem d_jdk_31m4_4 : decode jdk_31_method_4_code 4 = .ok (.aload_n 0, 1) := by decide +kernel
theorem d_jdk_31m4_5 : decode jdk_31_method_4_code 5 = .ok (.invokevirtual 24, 3) := by decide +kernel
theorem d_jdk_31m4_8 : decode jdk_31_method_4_code 8 = .ok (.goto 4, 3) := by decide +kernel
theorem d_jdk_31m4_12 : decode jdk_31_method_4_code 12 = .ok (.ireturn, 1) := by decide +kernel
theorem d_jdk_31m4_11 : decode jdk_31_method_4_code 11 = .ok (.iconst 0, 1) := by decide +kernel
theorem d_prog_6m1_0 : decode prog_6_method_1_code 0 = .ok (.aload_n 0, 1) := by decide +kernel
theorem d_prog_6m1_1 : decode prog_6_method_1_code 1 = .ok (.invokespecial 1, 3) := by decide +kernel
theorem d_prog_6m1_4 : decode prog_6_method_1_code 4 = .ok (.aload_n 0, 1) := by decide +kernel
theorem d_prog_6m1_5 : decode prog_6_method_1_code 5 = .ok (.aload_n 1, 1) := by decide +kernel
theorem d_prog_6m1_6 : decode prog_6_method_1_code 6 = .ok (.putfield 7, 3) := by decide +kernel
theorem d_prog_6m1_9 : decode prog_6_method_1_code 9 = .ok (.aload_n 0, 1) := by decide +kernel
theorem d_prog_6m1_10 : decode prog_6_method_1_code 10 = .ok (.aload_n 2, 1) := by decide +kernel
theorem d_prog_6m1_11 : decode prog_6_method_1_code 11 = .ok (.putfield 13, 3) := by decide +kernel
theorem d_prog_6m1_14 : decode prog_6_method_1_code 14 = .ok (.aload_n 0, 1) := by decide +kernel
theorem d_prog_6m1_15 : decode prog_6_method_1_code 15 = .ok (.bipush 31, 2) := by decide +kernel
theorem d_prog_6m1_17 : decode prog_6_method_1_code 17 = .ok (.aload_n 1, 1) := by decide +kernel
theorem d_prog_6m1_18 : decode prog_6_method_1_code 18 = .ok (.invokestatic 16, 3) := by decide +kernel
theorem d_prog_6m1_21 : decode prog_6_method_1_code 21 = .ok (.imul, 1) := by decide +kernel
theorem d_prog_6m1_22 : decode prog_6_method_1_code 22 = .ok (.aload_n 2, 1) := by decide +kernel
theorem d_prog_6m1_23 : decode prog_6_method_1_code 23 = .ok (.invokestatic 16, 3) := by decide +kernel
theorem d_prog_6m1_26 : decode prog_6_method_1_code 26 = .ok (.iadd, 1) := by decide +kernel
theorem d_prog_6m1_27 : decode prog_6_method_1_code 27 = .ok (.putfield 22, 3) := by decide +kernel
theorem d_prog_6m1_30 : decode prog_6_method_1_code 30 = .ok (.return_, 1) := by decide +kernel
theorem d_jdk_42m66_0 : decode jdk_42_method_66_code 0 = .ok (.aload_n 0, 1) := by decide +kernel
theorem d_jdk_42m66_1 : decode jdk_42_method_66_code 1 = .ok (.aload_n 1, 1) := by decide +kernel
theorem d_jdk_42m66_2 : decode jdk_42_method_66_code 2 = .ok (.if_acmp .ne 5, 3) := by decide +kernel
theorem d_jdk_42m66_7 : decode jdk_42_method_66_code 7 = .ok (.aload_n 1, 1) := by decide +kernel
theorem d_jdk_42m66_8 : decode jdk_42_method_66_code 8 = .ok (.instanceof 10, 3) := by decide +kernel
theorem d_jdk_42m66_11 : decode jdk_42_method_66_code 11 = .ok (.ifCond .eq 43, 3) := by decide +kernel
theorem d_jdk_42m66_54 : decode jdk_42_method_66_code 54 = .ok (.iconst 0, 1) := by decide +kernel
theorem d_jdk_42m66_55 : decode jdk_42_method_66_code 55 = .ok (.ireturn, 1) := by decide +kernel
theorem d_jdk_31m2_0 : decode jdk_31_method_2_code 0 = .ok (.aload_n 0, 1) := by decide +kernel
theorem d_jdk_31m2_1 : decode jdk_31_method_2_code 1 = .ok (.aload_n 1, 1) := by decide +kernel
theorem d_jdk_31m2_2 : decode jdk_31_method_2_code 2 = .ok (.if_acmp .eq 15, 3) := by decide +kernel
theorem d_jdk_31m2_17 : decode jdk_31_method_2_code 17 = .ok (.iconst 1, 1) := by decide +kernel
theorem d_jdk_31m2_18 : decode jdk_31_method_2_code 18 = .ok (.goto 4, 3) := by decide +kernel
theorem d_jdk_31m2_22 : decode jdk_31_method_2_code 22 = .ok (.ireturn, 1) := by decide +kernel
theorem d_jdk_31m2_5 : decode jdk_31_method_2_code 5 = .ok (.aload_n 0, 1) := by decide +kernel
theorem d_jdk_31m2_6 : decode jdk_31_method_2_code 6 = .ok (.ifnull 15, 3) := by decide +kernel
theorem d_jdk_31m2_21 : decode jdk_31_method_2_code 21 = .ok (.iconst 0, 1) := by decide +kernel
theorem d_jdk_31m2_9 : decode jdk_31_method_2_code 9 = .ok (.aload_n 0, 1) := by decide +kernel
theorem d_jdk_31m2_10 : decode jdk_31_method_2_code 10 = .ok (.aload_n 1, 1) := by decide +kernel
theorem d_jdk_31m2_11 : decode jdk_31_method_2_code 11 = .ok (.invokevirtual 14, 3) := by decide +kernel
theorem d_jdk_31m2_14 : decode jdk_31_method_2_code 14 = .ok (.ifCond .eq 7, 3) := by decide +kernel
theorem d_prog_6m4_0 : decode prog_6_method_4_code 0 = .ok (.aload_n 1, 1) := by decide +kernel
theorem d_prog_6m4_1 : decode prog_6_method_4_code 1 = .ok (.aload_n 0, 1) := by decide +kernel
theorem d_prog_6m4_2 : decode prog_6_method_4_code 2 = .ok (.if_acmp .eq 43, 3) := by decide +kernel
theorem d_prog_6m4_45 : decode prog_6_method_4_code 45 = .ok (.iconst 1, 1) := by decide +kernel
theorem d_prog_6m4_46 : decode prog_6_method_4_code 46 = .ok (.goto 4, 3) := by decide +kernel
theorem d_prog_6m4_50 : decode prog_6_method_4_code 50 = .ok (.ireturn, 1) := by decide +kernel
theorem d_prog_6m4_5 : decode prog_6_method_4_code 5 = .ok (.aload_n 1, 1) := by decide +kernel
theorem d_prog_6m4_6 : decode prog_6_method_4_code 6 = .ok (.instanceof 8, 3) := by decide +kernel
theorem d_prog_6m4_9 : decode prog_6_method_4_code 9 = .ok (.ifCond .eq 40, 3) := by decide +kernel
theorem d_prog_6m4_49 : decode prog_6_method_4_code 49 = .ok (.iconst 0, 1) := by decide +kernel
theorem d_prog_6m4_12 : decode prog_6_method_4_code 12 = .ok (.aload_n 1, 1) := by decide +kernel
theorem d_prog_6m4_13 : decode prog_6_method_4_code 13 = .ok (.checkcast 8, 3) := by decide +kernel
theorem d_prog_6m4_16 : decode prog_6_method_4_code 16 = .ok (.astore_n 2, 1) := by decide +kernel
theorem d_prog_6m4_17 : decode prog_6_method_4_code 17 = .ok (.aload_n 0, 1) := by decide +kernel
theorem d_prog_6m4_18 : decode prog_6_method_4_code 18 = .ok (.getfield 7, 3) := by decide +kernel
theorem d_prog_6m4_21 : decode prog_6_method_4_code 21 = .ok (.aload_n 2, 1) := by decide +kernel
theorem d_prog_6m4_22 : decode prog_6_method_4_code 22 = .ok (.getfield 7, 3) := by decide +kernel
theorem d_prog_6m4_25 : decode prog_6_method_4_code 25 = .ok (.invokestatic 26, 3) := by decide +kernel
theorem d_prog_6m4_28 : decode prog_6_method_4_code 28 = .ok (.ifCond .eq 21, 3) := by decide +kernel
theorem d_prog_6m4_31 : decode prog_6_method_4_code 31 = .ok (.aload_n 0, 1) := by decide +kernel
theorem d_prog_6m4_32 : decode prog_6_method_4_code 32 = .ok (.getfield 13, 3) := by decide +kernel
theorem d_prog_6m4_35 : decode prog_6_method_4_code 35 = .ok (.aload_n 2, 1) := by decide +kernel
theorem d_prog_6m4_36 : decode prog_6_method_4_code 36 = .ok (.getfield 13, 3) := by decide +kernel
theorem d_prog_6m4_39 : decode prog_6_method_4_code 39 = .ok (.invokestatic 26, 3) := by decide +kernel
theorem d_prog_6m4_42 : decode prog_6_method_4_code 42 = .ok (.ifCond .eq 7, 3) := by decide +kernel
theorem d_method_3_0 : decode method_3_code 0 = .ok (.iload_n 0, 1) := by decide +kernel
theorem d_method_3_1 : decode method_3_code 1 = .ok (.iconst 3, 1) := by decide +kernel
theorem d_method_3_2 : decode method_3_code 2 = .ok (.iand, 1) := by decide +kernel
theorem d_method_3_3 : decode method_3_code 3 = .ok (.ifCond .ne 7, 3) := by decide +kernel
theorem d_method_3_6 : decode method_3_code 6 = .ok (.iconst 1, 1) := by decide +kernel
theorem d_method_3_7 : decode method_3_code 7 = .ok (.goto 4, 3) := by decide +kernel
theorem d_method_3_11 : decode method_3_code 11 = .ok (.istore_n 2, 1) := by decide +kernel
theorem d_method_3_12 : decode method_3_code 12 = .ok (.iload_n 1, 1) := by decide +kernel
theorem d_method_3_13 : decode method_3_code 13 = .ok (.iconst 3, 1) := by decide +kernel
theorem d_method_3_14 : decode method_3_code 14 = .ok (.iand, 1) := by decide +kernel
theorem d_method_3_15 : decode method_3_code 15 = .ok (.ifCond .ne 7, 3) := by decide +kernel
theorem d_method_3_18 : decode method_3_code 18 = .ok (.iconst 1, 1) := by decide +kernel
theorem d_method_3_19 : decode method_3_code 19 = .ok (.goto 4, 3) := by decide +kernel
theorem d_method_3_23 : decode method_3_code 23 = .ok (.istore_n 3, 1) := by decide +kernel
theorem d_method_3_24 : decode method_3_code 24 = .ok (.iload_n 2, 1) := by decide +kernel
theorem d_method_3_25 : decode method_3_code 25 = .ok (.ifCond .ne 7, 3) := by decide +kernel
theorem d_method_3_32 : decode method_3_code 32 = .ok (.iload_n 2, 1) := by decide +kernel
theorem d_method_3_33 : decode method_3_code 33 = .ok (.ifCond .eq 11, 3) := by decide +kernel
theorem d_method_3_36 : decode method_3_code 36 = .ok (.iload_n 3, 1) := by decide +kernel
theorem d_method_3_37 : decode method_3_code 37 = .ok (.ifCond .eq 7, 3) := by decide +kernel
theorem d_method_3_40 : decode method_3_code 40 = .ok (.iconst 1, 1) := by decide +kernel
theorem d_method_3_41 : decode method_3_code 41 = .ok (.goto 4, 3) := by decide +kernel
theorem d_method_3_45 : decode method_3_code 45 = .ok (.ireturn, 1) := by decide +kernel
theorem d_method_3_22 : decode method_3_code 22 = .ok (.iconst 0, 1) := by decide +kernel
theorem d_method_3_44 : decode method_3_code 44 = .ok (.iconst 0, 1) := by decide +kernel
theorem d_method_3_10 : decode method_3_code 10 = .ok (.iconst 0, 1) := by decide +kernel
theorem d_method_3_28 : decode method_3_code 28 = .ok (.iload_n 3, 1) := by decide +kernel
theorem d_method_3_29 : decode method_3_code 29 = .ok (.ifCond .eq 17, 3) := by decide +kernel
theorem d_method_3_46 : decode method_3_code 46 = .ok (.iload_n 0, 1) := by decide +kernel
theorem d_method_3_47 : decode method_3_code 47 = .ok (.iconst 2, 1) := by decide +kernel
theorem d_method_3_48 : decode method_3_code 48 = .ok (.iushr, 1) := by decide +kernel
theorem d_method_3_49 : decode method_3_code 49 = .ok (.iconst 3, 1) := by decide +kernel
theorem d_method_3_50 : decode method_3_code 50 = .ok (.iand, 1) := by decide +kernel
theorem d_method_3_51 : decode method_3_code 51 = .ok (.istore 4, 2) := by decide +kernel
theorem d_method_3_53 : decode method_3_code 53 = .ok (.iload_n 1, 1) := by decide +kernel
theorem d_method_3_54 : decode method_3_code 54 = .ok (.iconst 2, 1) := by decide +kernel
theorem d_method_3_55 : decode method_3_code 55 = .ok (.iushr, 1) := by decide +kernel
theorem d_method_3_56 : decode method_3_code 56 = .ok (.iconst 3, 1) := by decide +kernel
theorem d_method_3_57 : decode method_3_code 57 = .ok (.iand, 1) := by decide +kernel
theorem d_method_3_58 : decode method_3_code 58 = .ok (.istore 5, 2) := by decide +kernel
theorem d_method_3_60 : decode method_3_code 60 = .ok (.iload 4, 2) := by decide +kernel
theorem d_method_3_62 : decode method_3_code 62 = .ok (.iload 5, 2) := by decide +kernel
theorem d_method_3_64 : decode method_3_code 64 = .ok (.if_icmp .eq 5, 3) := by decide +kernel
theorem d_method_3_69 : decode method_3_code 69 = .ok (.iload 4, 2) := by decide +kernel
theorem d_method_3_71 : decode method_3_code 71 = .ok (.ifCond .le 22, 3) := by decide +kernel
theorem d_method_3_74 : decode method_3_code 74 = .ok (.iload_n 0, 1) := by decide +kernel
theorem d_method_3_75 : decode method_3_code 75 = .ok (.iconst 4, 1) := by decide +kernel
theorem d_method_3_76 : decode method_3_code 76 = .ok (.iushr, 1) := by decide +kernel
theorem d_method_3_77 : decode method_3_code 77 = .ok (.sipush 255, 3) := by decide +kernel
theorem d_method_3_80 : decode method_3_code 80 = .ok (.iand, 1) := by decide +kernel
theorem d_method_3_81 : decode method_3_code 81 = .ok (.iload_n 1, 1) := by decide +kernel
theorem d_method_3_82 : decode method_3_code 82 = .ok (.iconst 4, 1) := by decide +kernel
theorem d_method_3_83 : decode method_3_code 83 = .ok (.iushr, 1) := by decide +kernel
theorem d_method_3_84 : decode method_3_code 84 = .ok (.sipush 255, 3) := by decide +kernel
theorem d_method_3_87 : decode method_3_code 87 = .ok (.iand, 1) := by decide +kernel
theorem d_method_3_88 : decode method_3_code 88 = .ok (.if_icmp .eq 5, 3) := by decide +kernel
theorem d_method_3_93 : decode method_3_code 93 = .ok (.iload 4, 2) := by decide +kernel
theorem d_method_3_95 : decode method_3_code 95 = .ok (.iconst 1, 1) := by decide +kernel
theorem d_method_3_96 : decode method_3_code 96 = .ok (.if_icmp .le 24, 3) := by decide +kernel
theorem d_method_3_99 : decode method_3_code 99 = .ok (.iload_n 0, 1) := by decide +kernel
theorem d_method_3_100 : decode method_3_code 100 = .ok (.bipush 12, 2) := by decide +kernel
theorem d_method_3_102 : decode method_3_code 102 = .ok (.iushr, 1) := by decide +kernel
theorem d_method_3_103 : decode method_3_code 103 = .ok (.sipush 255, 3) := by decide +kernel
theorem d_method_3_106 : decode method_3_code 106 = .ok (.iand, 1) := by decide +kernel
theorem d_method_3_107 : decode method_3_code 107 = .ok (.iload_n 1, 1) := by decide +kernel
theorem d_method_3_108 : decode method_3_code 108 = .ok (.bipush 12, 2) := by decide +kernel
theorem d_method_3_110 : decode method_3_code 110 = .ok (.iushr, 1) := by decide +kernel
theorem d_method_3_111 : decode method_3_code 111 = .ok (.sipush 255, 3) := by decide +kernel
theorem d_method_3_114 : decode method_3_code 114 = .ok (.iand, 1) := by decide +kernel
theorem d_method_3_115 : decode method_3_code 115 = .ok (.if_icmp .eq 5, 3) := by decide +kernel
theorem d_method_3_120 : decode method_3_code 120 = .ok (.iload 4, 2) := by decide +kernel
theorem d_method_3_122 : decode method_3_code 122 = .ok (.iconst 2, 1) := by decide +kernel
theorem d_method_3_123 : decode method_3_code 123 = .ok (.if_icmp .le 24, 3) := by decide +kernel
theorem d_method_3_126 : decode method_3_code 126 = .ok (.iload_n 0, 1) := by decide +kernel
theorem d_method_3_127 : decode method_3_code 127 = .ok (.bipush 20, 2) := by decide +kernel
theorem d_method_3_129 : decode method_3_code 129 = .ok (.iushr, 1) := by decide +kernel
theorem d_method_3_130 : decode method_3_code 130 = .ok (.sipush 255, 3) := by decide +kernel
theorem d_method_3_133 : decode method_3_code 133 = .ok (.iand, 1) := by decide +kernel
theorem d_method_3_134 : decode method_3_code 134 = .ok (.iload_n 1, 1) := by decide +kernel
theorem d_method_3_135 : decode method_3_code 135 = .ok (.bipush 20, 2) := by decide +kernel
theorem d_method_3_137 : decode method_3_code 137 = .ok (.iushr, 1) := by decide +kernel
theorem d_method_3_138 : decode method_3_code 138 = .ok (.sipush 255, 3) := by decide +kernel
theorem d_method_3_141 : decode method_3_code 141 = .ok (.iand, 1) := by decide +kernel
theorem d_method_3_142 : decode method_3_code 142 = .ok (.if_icmp .eq 5, 3) := by decide +kernel
theorem d_method_3_147 : decode method_3_code 147 = .ok (.iconst 1, 1) := by decide +kernel
theorem d_method_3_148 : decode method_3_code 148 = .ok (.ireturn, 1) := by decide +kernel
theorem d_method_3_145 : decode method_3_code 145 = .ok (.iconst 0, 1) := by decide +kernel
theorem d_method_3_146 : decode method_3_code 146 = .ok (.ireturn, 1) := by decide +kernel
theorem d_method_3_118 : decode method_3_code 118 = .ok (.iconst 0, 1) := by decide +kernel
theorem d_method_3_119 : decode method_3_code 119 = .ok (.ireturn, 1) := by decide +kernel
theorem d_method_3_91 : decode method_3_code 91 = .ok (.iconst 0, 1) := by decide +kernel
theorem d_method_3_92 : decode method_3_code 92 = .ok (.ireturn, 1) := by decide +kernel
theorem d_method_3_67 : decode method_3_code 67 = .ok (.iconst 0, 1) := by decide +kernel
theorem d_method_3_68 : decode method_3_code 68 = .ok (.ireturn, 1) := by decide +kernel
theorem pn_0 : plainName "java/lang/StringUTF16" = true := by first | (simp [plainName, overriddenIn]; done) | decide +kernel
theorem pn_1 : plainName "java/lang/String" = true := by first | (simp [plainName, overriddenIn]; done) | decide +kernel
theorem pn_2 : plainName "com/example/pactum/pactum/model/CredentialsEqualsPinLaw" = true := by first | (simp [plainName, overriddenIn]; done) | decide +kernel
theorem pn_3 : plainName "java/lang/StringLatin1" = true := by first | (simp [plainName, overriddenIn]; done) | decide +kernel
theorem pn_4 : plainName "jdk/internal/util/ArraysSupport" = true := by first | (simp [plainName, overriddenIn]; done) | decide +kernel
theorem pn_5 : plainName "java/util/Objects" = true := by first | (simp [plainName, overriddenIn]; done) | decide +kernel
theorem pn_6 : plainName "com/example/pactum/pactum/model/Credentials" = true := by first | (simp [plainName, overriddenIn]; done) | decide +kernel
theorem pd_0 : parseMethodDescriptor "([CI[BII)I" = some ⟨[(.array .char), .int, (.array .byte), .int, .int], some .int⟩ := by decide +kernel
theorem pd_1 : parseMethodDescriptor "([CII)[B" = some ⟨[(.array .char), .int, .int], some (.array .byte)⟩ := by decide +kernel
theorem pd_2 : parseMethodDescriptor "([BI)B" = some ⟨[(.array .byte), .int], some .byte⟩ := by decide +kernel
theorem pd_3 : parseMethodDescriptor "([CIILjava/lang/Void;)V" = some ⟨[(.array .char), .int, .int, (.object "java/lang/Void")], none⟩ := by decide +kernel
theorem pd_4 : parseMethodDescriptor "([C)V" = some ⟨[(.array .char)], none⟩ := by decide +kernel
theorem pd_5 : parseMethodDescriptor "()Z" = some ⟨[], some .boolean⟩ := by decide +kernel
theorem pd_6 : parseMethodDescriptor "([B)I" = some ⟨[(.array .byte)], some .int⟩ := by decide +kernel
theorem pd_7 : parseMethodDescriptor "(I[BII)I" = some ⟨[.int, (.array .byte), .int, .int], some .int⟩ := by decide +kernel
theorem pd_8 : parseMethodDescriptor "(Ljava/lang/Object;IIII)I" = some ⟨[(.object "java/lang/Object"), .int, .int, .int, .int], some .int⟩ := by decide +kernel
theorem pd_9 : parseMethodDescriptor "()I" = some ⟨[], some .int⟩ := by decide +kernel
theorem pd_10 : parseMethodDescriptor "(Ljava/lang/Object;)I" = some ⟨[(.object "java/lang/Object")], some .int⟩ := by decide +kernel
theorem pd_11 : parseMethodDescriptor "(Ljava/lang/Object;)Z" = some ⟨[(.object "java/lang/Object")], some .boolean⟩ := by decide +kernel
theorem pd_12 : parseMethodDescriptor "(Ljava/lang/Object;Ljava/lang/Object;)Z" = some ⟨[(.object "java/lang/Object"), (.object "java/lang/Object")], some .boolean⟩ := by decide +kernel
theorem pd_13 : parseMethodDescriptor "(I)Ljava/lang/String;" = some ⟨[.int], some (.object "java/lang/String")⟩ := by decide +kernel
theorem pd_14 : parseMethodDescriptor "(Ljava/lang/String;Ljava/lang/String;)V" = some ⟨[(.object "java/lang/String"), (.object "java/lang/String")], none⟩ := by decide +kernel
theorem pd_15 : parseMethodDescriptor "(II)Z" = some ⟨[.int, .int], some .boolean⟩ := by decide +kernel
theorem ef_cC5_1 (m : MethodId) (b : Addr) (d : Addr) : entryFrame m #[(.ref b), (.int (0 : Int32)), (.ref d), (.int (0 : Int32)), (.int (1 : Int32))] 7 = mkF m 0 #[.val (.ref b), .val (.int (0 : Int32)), .val (.ref d), .val (.int (0 : Int32)), .val (.int (1 : Int32)), .unset, .unset] [] := by first | (simp [entryFrame, mkF, argsToLocals, Value.category]; done) | rfl
theorem ef_cC3_1 (m : MethodId) (b : Addr) : entryFrame m #[(.ref b), (.int (0 : Int32)), (.int (1 : Int32))] 6 = mkF m 0 #[.val (.ref b), .val (.int (0 : Int32)), .val (.int (1 : Int32)), .unset, .unset, .unset] [] := by first | (simp [entryFrame, mkF, argsToLocals, Value.category]; done) | rfl
theorem ef_cCod_1 (m : MethodId) (t : Addr) : entryFrame m #[(.ref t), (.int (1 : Int32))] 2 = mkF m 0 #[.val (.ref t), .val (.int (1 : Int32))] [] := by first | (simp [entryFrame, mkF, argsToLocals, Value.category]; done) | rfl
theorem ef_cN4_1 (m : MethodId) (x : Addr) (b : Addr) : entryFrame m #[(.ref x), (.ref b), (.int (0 : Int32)), (.int (1 : Int32)), .null] 6 = mkF m 0 #[.val (.ref x), .val (.ref b), .val (.int (0 : Int32)), .val (.int (1 : Int32)), .val .null, .unset] [] := by first | (simp [entryFrame, mkF, argsToLocals, Value.category]; done) | rfl
theorem ef_cN1_1 (m : MethodId) (x : Addr) (b : Addr) : entryFrame m #[(.ref x), (.ref b)] 2 = mkF m 0 #[.val (.ref x), .val (.ref b)] [] := by first | (simp [entryFrame, mkF, argsToLocals, Value.category]; done) | rfl
theorem ef_cC5_2 (m : MethodId) (b : Addr) (d : Addr) : entryFrame m #[(.ref b), (.int (0 : Int32)), (.ref d), (.int (0 : Int32)), (.int (2 : Int32))] 7 = mkF m 0 #[.val (.ref b), .val (.int (0 : Int32)), .val (.ref d), .val (.int (0 : Int32)), .val (.int (2 : Int32)), .unset, .unset] [] := by first | (simp [entryFrame, mkF, argsToLocals, Value.category]; done) | rfl
theorem ef_cC3_2 (m : MethodId) (b : Addr) : entryFrame m #[(.ref b), (.int (0 : Int32)), (.int (2 : Int32))] 6 = mkF m 0 #[.val (.ref b), .val (.int (0 : Int32)), .val (.int (2 : Int32)), .unset, .unset, .unset] [] := by first | (simp [entryFrame, mkF, argsToLocals, Value.category]; done) | rfl
theorem ef_cCod_2 (m : MethodId) (t : Addr) : entryFrame m #[(.ref t), (.int (2 : Int32))] 2 = mkF m 0 #[.val (.ref t), .val (.int (2 : Int32))] [] := by first | (simp [entryFrame, mkF, argsToLocals, Value.category]; done) | rfl
theorem ef_cN4_2 (m : MethodId) (x : Addr) (b : Addr) : entryFrame m #[(.ref x), (.ref b), (.int (0 : Int32)), (.int (2 : Int32)), .null] 6 = mkF m 0 #[.val (.ref x), .val (.ref b), .val (.int (0 : Int32)), .val (.int (2 : Int32)), .val .null, .unset] [] := by first | (simp [entryFrame, mkF, argsToLocals, Value.category]; done) | rfl
theorem ef_cN1_2 (m : MethodId) (x : Addr) (b : Addr) : entryFrame m #[(.ref x), (.ref b)] 2 = mkF m 0 #[.val (.ref x), .val (.ref b)] [] := by first | (simp [entryFrame, mkF, argsToLocals, Value.category]; done) | rfl
theorem ef_cC5_3 (m : MethodId) (b : Addr) (d : Addr) : entryFrame m #[(.ref b), (.int (0 : Int32)), (.ref d), (.int (0 : Int32)), (.int (3 : Int32))] 7 = mkF m 0 #[.val (.ref b), .val (.int (0 : Int32)), .val (.ref d), .val (.int (0 : Int32)), .val (.int (3 : Int32)), .unset, .unset] [] := by first | (simp [entryFrame, mkF, argsToLocals, Value.category]; done) | rfl
theorem ef_cC3_3 (m : MethodId) (b : Addr) : entryFrame m #[(.ref b), (.int (0 : Int32)), (.int (3 : Int32))] 6 = mkF m 0 #[.val (.ref b), .val (.int (0 : Int32)), .val (.int (3 : Int32)), .unset, .unset, .unset] [] := by first | (simp [entryFrame, mkF, argsToLocals, Value.category]; done) | rfl
theorem ef_cCod_3 (m : MethodId) (t : Addr) : entryFrame m #[(.ref t), (.int (3 : Int32))] 2 = mkF m 0 #[.val (.ref t), .val (.int (3 : Int32))] [] := by first | (simp [entryFrame, mkF, argsToLocals, Value.category]; done) | rfl
theorem ef_cN4_3 (m : MethodId) (x : Addr) (b : Addr) : entryFrame m #[(.ref x), (.ref b), (.int (0 : Int32)), (.int (3 : Int32)), .null] 6 = mkF m 0 #[.val (.ref x), .val (.ref b), .val (.int (0 : Int32)), .val (.int (3 : Int32)), .val .null, .unset] [] := by first | (simp [entryFrame, mkF, argsToLocals, Value.category]; done) | rfl
theorem ef_cN1_3 (m : MethodId) (x : Addr) (b : Addr) : entryFrame m #[(.ref x), (.ref b)] 2 = mkF m 0 #[.val (.ref x), .val (.ref b)] [] := by first | (simp [entryFrame, mkF, argsToLocals, Value.category]; done) | rfl
theorem ef_cE4 (m : MethodId) (x : Addr) (b : Addr) : entryFrame m #[(.ref x), (.ref b), (.int (0 : Int32)), (.int (0 : Int32)), .null] 6 = mkF m 0 #[.val (.ref x), .val (.ref b), .val (.int (0 : Int32)), .val (.int (0 : Int32)), .val .null, .unset] [] := by first | (simp [entryFrame, mkF, argsToLocals, Value.category]; done) | rfl
theorem ef_cE1 (m : MethodId) (x : Addr) (b : Addr) : entryFrame m #[(.ref x), (.ref b)] 2 = mkF m 0 #[.val (.ref x), .val (.ref b)] [] := by first | (simp [entryFrame, mkF, argsToLocals, Value.category]; done) | rfl
theorem ef_cMk (m : MethodId) (i : Int32) : entryFrame m #[(.int i)] 3 = mkF m 0 #[.val (.int i), .unset, .unset] [] := by first | (simp [entryFrame, mkF, argsToLocals, Value.category]; done) | rfl
theorem ef_cIL_0 (m : MethodId) (x : Addr) : entryFrame m #[(.ref x)] 1 = mkF m 0 #[.val (.ref x)] [] := by first | (simp [entryFrame, mkF, argsToLocals, Value.category]; done) | rfl
theorem ef_cIL_1 (m : MethodId) (x : Addr) : entryFrame m #[(.ref x)] 1 = mkF m 0 #[.val (.ref x)] [] := by first | (simp [entryFrame, mkF, argsToLocals, Value.category]; done) | rfl
theorem ef_cLH_0 (m : MethodId) (t : Addr) : entryFrame m #[(.ref t)] 1 = mkF m 0 #[.val (.ref t)] [] := by first | (simp [entryFrame, mkF, argsToLocals, Value.category]; done) | rfl
theorem ef_cHC_0 (m : MethodId) (x : Addr) : entryFrame m #[(.ref x)] 2 = mkF m 0 #[.val (.ref x), .unset] [] := by first | (simp [entryFrame, mkF, argsToLocals, Value.category]; done) | rfl
theorem ef_cLH_1 (m : MethodId) (t : Addr) : entryFrame m #[(.ref t)] 1 = mkF m 0 #[.val (.ref t)] [] := by first | (simp [entryFrame, mkF, argsToLocals, Value.category]; done) | rfl
theorem ef_cHC_1 (m : MethodId) (x : Addr) : entryFrame m #[(.ref x)] 2 = mkF m 0 #[.val (.ref x), .unset] [] := by first | (simp [entryFrame, mkF, argsToLocals, Value.category]; done) | rfl
theorem ef_cSg_2 (m : MethodId) (t : Addr) : entryFrame m #[(.int (0 : Int32)), (.ref t), (.int (0 : Int32)), (.int (2 : Int32))] 6 = mkF m 0 #[.val (.int (0 : Int32)), .val (.ref t), .val (.int (0 : Int32)), .val (.int (2 : Int32)), .unset, .unset] [] := by first | (simp [entryFrame, mkF, argsToLocals, Value.category]; done) | rfl
theorem ef_cVH_2 (m : MethodId) (t : Addr) : entryFrame m #[(.ref t), (.int (0 : Int32)), (.int (2 : Int32)), (.int (0 : Int32)), (.int (4 : Int32))] 5 = mkF m 0 #[.val (.ref t), .val (.int (0 : Int32)), .val (.int (2 : Int32)), .val (.int (0 : Int32)), .val (.int (4 : Int32))] [] := by first | (simp [entryFrame, mkF, argsToLocals, Value.category]; done) | rfl
theorem ef_cLH_2 (m : MethodId) (t : Addr) : entryFrame m #[(.ref t)] 1 = mkF m 0 #[.val (.ref t)] [] := by first | (simp [entryFrame, mkF, argsToLocals, Value.category]; done) | rfl
theorem ef_cHC_2 (m : MethodId) (x : Addr) : entryFrame m #[(.ref x)] 2 = mkF m 0 #[.val (.ref x), .unset] [] := by first | (simp [entryFrame, mkF, argsToLocals, Value.category]; done) | rfl
theorem ef_cSg_3 (m : MethodId) (t : Addr) : entryFrame m #[(.int (0 : Int32)), (.ref t), (.int (0 : Int32)), (.int (3 : Int32))] 6 = mkF m 0 #[.val (.int (0 : Int32)), .val (.ref t), .val (.int (0 : Int32)), .val (.int (3 : Int32)), .unset, .unset] [] := by first | (simp [entryFrame, mkF, argsToLocals, Value.category]; done) | rfl
theorem ef_cVH_3 (m : MethodId) (t : Addr) : entryFrame m #[(.ref t), (.int (0 : Int32)), (.int (3 : Int32)), (.int (0 : Int32)), (.int (4 : Int32))] 5 = mkF m 0 #[.val (.ref t), .val (.int (0 : Int32)), .val (.int (3 : Int32)), .val (.int (0 : Int32)), .val (.int (4 : Int32))] [] := by first | (simp [entryFrame, mkF, argsToLocals, Value.category]; done) | rfl
theorem ef_cLH_3 (m : MethodId) (t : Addr) : entryFrame m #[(.ref t)] 1 = mkF m 0 #[.val (.ref t)] [] := by first | (simp [entryFrame, mkF, argsToLocals, Value.category]; done) | rfl
theorem ef_cHC_3 (m : MethodId) (x : Addr) : entryFrame m #[(.ref x)] 2 = mkF m 0 #[.val (.ref x), .unset] [] := by first | (simp [entryFrame, mkF, argsToLocals, Value.category]; done) | rfl
theorem ef_cOH_r (m : MethodId) (x : Addr) : entryFrame m #[(.ref x)] 1 = mkF m 0 #[.val (.ref x)] [] := by first | (simp [entryFrame, mkF, argsToLocals, Value.category]; done) | rfl
theorem ef_cOH_n (m : MethodId)  : entryFrame m #[.null] 1 = mkF m 0 #[.val .null] [] := by first | (simp [entryFrame, mkF, argsToLocals, Value.category]; done) | rfl
theorem ef_cCI_nn (m : MethodId) (b : Addr) : entryFrame m #[(.ref b), .null, .null] 3 = mkF m 0 #[.val (.ref b), .val .null, .val .null] [] := by first | (simp [entryFrame, mkF, argsToLocals, Value.category]; done) | rfl
theorem ef_cCI_nr (m : MethodId) (b : Addr) (pw : Addr) : entryFrame m #[(.ref b), .null, (.ref pw)] 3 = mkF m 0 #[.val (.ref b), .val .null, .val (.ref pw)] [] := by first | (simp [entryFrame, mkF, argsToLocals, Value.category]; done) | rfl
theorem ef_cCI_rn (m : MethodId) (b : Addr) (u : Addr) : entryFrame m #[(.ref b), (.ref u), .null] 3 = mkF m 0 #[.val (.ref b), .val (.ref u), .val .null] [] := by first | (simp [entryFrame, mkF, argsToLocals, Value.category]; done) | rfl
theorem ef_cCI_rr (m : MethodId) (b : Addr) (u : Addr) (pw : Addr) : entryFrame m #[(.ref b), (.ref u), (.ref pw)] 3 = mkF m 0 #[.val (.ref b), .val (.ref u), .val (.ref pw)] [] := by first | (simp [entryFrame, mkF, argsToLocals, Value.category]; done) | rfl
theorem ef_cSE0 (m : MethodId) (x : Addr) : entryFrame m #[(.ref x), .null] 3 = mkF m 0 #[.val (.ref x), .val .null, .unset] [] := by first | (simp [entryFrame, mkF, argsToLocals, Value.category]; done) | rfl
theorem ef_cOE_nn (m : MethodId)  : entryFrame m #[.null, .null] 2 = mkF m 0 #[.val .null, .val .null] [] := by first | (simp [entryFrame, mkF, argsToLocals, Value.category]; done) | rfl
theorem ef_cOE_nr (m : MethodId) (y : Addr) : entryFrame m #[.null, (.ref y)] 2 = mkF m 0 #[.val .null, .val (.ref y)] [] := by first | (simp [entryFrame, mkF, argsToLocals, Value.category]; done) | rfl
theorem ef_cOE_rn (m : MethodId) (x : Addr) : entryFrame m #[(.ref x), .null] 2 = mkF m 0 #[.val (.ref x), .val .null] [] := by first | (simp [entryFrame, mkF, argsToLocals, Value.category]; done) | rfl
theorem ef_cOE_rr (m : MethodId) (x : Addr) (y : Addr) : entryFrame m #[(.ref x), (.ref y)] 2 = mkF m 0 #[.val (.ref x), .val (.ref y)] [] := by first | (simp [entryFrame, mkF, argsToLocals, Value.category]; done) | rfl
theorem ef_cEqS (m : MethodId) (b : Addr) (b : Addr) : entryFrame m #[(.ref b), (.ref b)] 3 = mkF m 0 #[.val (.ref b), .val (.ref b), .unset] [] := by first | (simp [entryFrame, mkF, argsToLocals, Value.category]; done) | rfl
theorem ef_cEqN (m : MethodId) (b : Addr) : entryFrame m #[(.ref b), .null] 3 = mkF m 0 #[.val (.ref b), .val .null, .unset] [] := by first | (simp [entryFrame, mkF, argsToLocals, Value.category]; done) | rfl
theorem ef_cEqT (m : MethodId) (b : Addr) (o : Addr) : entryFrame m #[(.ref b), (.ref o)] 3 = mkF m 0 #[.val (.ref b), .val (.ref o), .unset] [] := by first | (simp [entryFrame, mkF, argsToLocals, Value.category]; done) | rfl
theorem ef_cEq2 (m : MethodId) (b : Addr) (o : Addr) : entryFrame m #[(.ref b), (.ref o)] 3 = mkF m 0 #[.val (.ref b), .val (.ref o), .unset] [] := by first | (simp [entryFrame, mkF, argsToLocals, Value.category]; done) | rfl
theorem ef_cSm (m : MethodId) (i : Int32) (j : Int32) : entryFrame m #[(.int i), (.int j)] 6 = mkF m 0 #[.val (.int i), .val (.int j), .unset, .unset, .unset, .unset] [] := by first | (simp [entryFrame, mkF, argsToLocals, Value.category]; done) | rfl
theorem ef_cX (m : MethodId) (i0 : Int32) (i1 : Int32) (i2 : Int32) (i3 : Int32) (i4 : Int32) (i5 : Int32) : entryFrame m #[(.int i0), (.int i1), (.int i2), (.int i3), (.int i4), (.int i5)] maxLocals = mkF m 0 #[.val (.int i0), .val (.int i1), .val (.int i2), .val (.int i3), .val (.int i4), .val (.int i5), .unset, .unset, .unset, .unset, .unset, .unset] [] := by first | (simp [entryFrame, mkF, argsToLocals, Value.category, maxLocals]; done) | rfl
/-- the object at a is a Latin-1 String of the chars cs -/
def LS (Z : State) (h : Heap) (a : Addr) (cs : List Int32) : Prop := ∃ (t : Addr) (kb : ClassId), Exa Z h a "java/lang/String" ∧ Fld Z h a "java/lang/String" "coder" "B" (.int 0) ∧ Fld Z h a "java/lang/String" "value" "[B" (.ref t) ∧ Arv Z h t kb .byte (Int32.ofNat cs.length) ((cs.map StrChars.lo8).map Value.int) (.int 0) ∧ (∀ c ∈ cs, ¬ c < 0 ∧ ¬ (255 : Int32) < c) ∧ cs.length ≤ 4000
theorem LS.ext {Z : State} {h h' : Heap} {a : Addr} {cs : List Int32} (F : LS Z h a cs) (E : Ext h h') : LS Z h' a cs := by
  obtain ⟨t, kb, f1, f2, f3, f4, f5⟩ := F; exact ⟨t, kb, f1.ext E, f2.ext E, f3.ext E, f4.ext E, f5⟩
theorem LS.exa {Z : State} {h : Heap} {a : Addr} {cs : List Int32} (F : LS Z h a cs) : Exa Z h a "java/lang/String" := by obtain ⟨t, kb, f1, -⟩ := F; exact f1
theorem LS.lt {Z : State} {h : Heap} {a : Addr} {cs : List Int32} (F : LS Z h a cs) : a < h.size := F.exa.lt
theorem up255 {cs : List Int32} (h : ∀ c ∈ cs, ¬ c < 0 ∧ ¬ (255 : Int32) < c) : ∀ c ∈ cs, ¬ c < 0 ∧ ¬ (65535 : Int32) < c := fun c hc => ⟨(h c hc).1, fun q => (h c hc).2 (Int32.lt_trans (by decide) q)⟩
section Wide
variable {p : Program} {l : Launch} {e : Env} {R : Room} {m : MethodId} {args : Array Value} {below : List Frame} {meth : Method} {c : Code} {own : String} {bytes : ByteArray} {maxL : Nat} {Z s s' T : State} {EL : List (String × Nat)} {locs : List Loc} {cells slots : Nat} {h h' : Heap} {G : Outcome → State → Prop} {pc : Nat} {Ls : Array Slot} {S : List Value} {a0 : Array Value} {Q : Option Value → Heap → List Loc → Prop} {ck sk : Nat} {a : Addr} {sl : Nat} {v : Value} {ws : List Addr}
/-- the invariant of a walk that may load literals: the tables have gone on from s's, and the constants of EL say their texts -/
def WI (Z : State) (EL : List (String × Nat)) (s : State) : State → Heap → Prop := fun s' h => ∃ vm0 k0, s' = s.setVm vm0 ∧ s.Since vm0 k0 ∧ k0 ≤ h.size ∧ CHr Z EL s.vm s.heap vm0 h
theorem WI.ext (H : WI Z EL s s' h) (E : Ext h h') : WI Z EL s s' h' := by
  obtain ⟨vm0, k0, q1, q2, q3, q4⟩ := H; exact ⟨vm0, k0, q1, q2, Nat.le_trans q3 E.1, q4.trans (CHr.ext E q4.1)⟩
theorem WI.wr (H : WI Z EL s s' h) (S : Safe Z EL s'.vm h a) (W : Wr h h' a sl v) : WI Z EL s s' h' := by
  obtain ⟨vm0, k0, rfl, q2, q3, q4⟩ := H
  exact ⟨vm0, k0, rfl, q2, by rw [W.size]; exact q3, q4.trans (CHr.wr W S q4.1)⟩
theorem WI.keep (H : WI Z EL s s' h) (S : ∀ x ∈ ws, Safe Z EL s'.vm h x) (K : Keep h h' ws) : WI Z EL s s' h' := by
  obtain ⟨vm0, k0, rfl, q2, q3, q4⟩ := H
  exact ⟨vm0, k0, rfl, q2, Nat.le_trans q3 K.1, q4.trans (CHr.keep K S q4.1)⟩
theorem WI.chv (H : WI Z EL s s' h) : CHv Z EL s'.vm h := by obtain ⟨vm0, k0, rfl, q2, q3, q4⟩ := H; exact q4.1
theorem WI.safeExt (H : WI Z EL s s' h) (E : Ext h h') (S : Safe Z EL s'.vm h a) : Safe Z EL s'.vm h' a := S.ext E H.chv
theorem WI.safeNew (H : WI Z EL s s' h) (E : Ext h h') (q : a = h.size) : Safe Z EL s'.vm h' a := Safe.ext E H.chv (Safe.new (Nat.le_of_eq q.symm))
theorem WI.safeWr {b : Addr} (H : WI Z EL s s' h) (Sb : Safe Z EL s'.vm h b) (W : Wr h h' b sl v) (S : Safe Z EL s'.vm h a) : Safe Z EL s'.vm h' a := Safe.wr W Sb H.chv S
theorem WI.safeKeep (H : WI Z EL s s' h) (Sb : ∀ x ∈ ws, Safe Z EL s'.vm h x) (K : Keep h h' ws) (S : Safe Z EL s'.vm h a) : Safe Z EL s'.vm h' a := Safe.keep K Sb H.chv S
/-- what a walk that may load literals ends in -/
def WG (Z : State) (EL : List (String × Nat)) (s : State) (Q : Option Value → Heap → List Loc → Prop) (ck sk : Nat) : Outcome → State → Prop := fun o U' => ∃ v L, o = .returned v ∧ Q v U'.heap L ∧ CHr Z EL s.vm s.heap U'.vm U'.heap ∧ ReturnedEndW s o U' L ck sk
theorem r_genw (D : Wk p l e R m args below meth c own bytes maxL Z (WI Z EL s) s' T locs cells slots h) (hEW : EW Z a0 EL) {v : Option Value} (hv : meth.sig.returnType = none → v = none) (hlk : meth.locks = false) (hst : ∀ fs, (∀ (f : JFrame) (acts : List Action), f.method = m → f.locked = none → f.entered = [] → (doReturn e (T.setTop f) acts v).1 = T.setFrames fs) → Steps p.tables e below (T.setTop (mkF m pc Ls S)) (T.setFrames fs)) (hQ : Q v h locs) (hc : cells ≤ ck) (hs : slots ≤ sk) : Go p e below (WG Z EL s Q ck sk) (T.setTop (mkF m pc Ls S)) := by
  obtain ⟨vm0, k0, rfl, q2, q3, q4⟩ := D.iv
  obtain ⟨fs, hr, hrun, hended, hW⟩ := D.st.leaveW q2 (by rw [D.eq]; exact q3) (v := v) hv hlk
  refine ⟨_, _, hst fs hr, hrun, hended, _, _, rfl, ?_, ?_, hW.1, hW.2.1, hW.2.2.1, hW.2.2.2.mono hc hs⟩
  · show Q v T.heap locs
    rw [D.eq]; exact hQ
  · show CHr Z EL s.vm s.heap T.vm T.heap
    rw [D.eq]; exact q4.trans (CHv.at D.st D.wm hEW q4.1)
theorem r_Iw (D : Wk p l e R m args below meth c own bytes maxL Z (WI Z EL s) s' T locs cells slots h) (hEW : EW Z a0 EL) {z : Int32} (hret : meth.sig.returnType = some .int) (hlk : meth.locks = false) (hd : decode bytes pc = .ok (.ireturn, 1)) (hQ : Q (some (.int z)) h locs) (hc : cells ≤ ck) (hs : slots ≤ sk) : Go p e below (WG Z EL s Q ck sk) (T.setTop (mkF m pc Ls (.int z :: S))) :=
  r_genw D hEW (fun h => by rw [hret] at h; cases h) hlk (fun fs hr => retOut D.st D.ex hret rfl (Or.inl ⟨rfl, Or.inl rfl, _, rfl⟩) (hb D.cb hd) hr) hQ hc hs
theorem r_Nw (D : Wk p l e R m args below meth c own bytes maxL Z (WI Z EL s) s' T locs cells slots h) (hEW : EW Z a0 EL) {t : FieldType} {z : Int32} (hret : meth.sig.returnType = some t) (ht : t = .boolean ∨ t = .byte ∨ t = .char ∨ t = .short) (hlk : meth.locks = false) (hd : decode bytes pc = .ok (.ireturn, 1)) (hQ : Q (some (.int (nar t z))) h locs) (hc : cells ≤ ck) (hs : slots ≤ sk) : Go p e below (WG Z EL s Q ck sk) (T.setTop (mkF m pc Ls (.int z :: S))) :=
  r_genw D hEW (fun h => by rw [hret] at h; cases h) hlk (fun fs hr => retN D.st D.ex hret ht (hb D.cb hd) hr) hQ hc hs
theorem r_Aw (D : Wk p l e R m args below meth c own bytes maxL Z (WI Z EL s) s' T locs cells slots h) (hEW : EW Z a0 EL) {t : FieldType} {w : Value} (hret : meth.sig.returnType = some t) (ht : t.isReference = true) (hw : w.isRef = true) (hlk : meth.locks = false) (hd : decode bytes pc = .ok (.areturn, 1)) (hQ : Q (some w) h locs) (hc : cells ≤ ck) (hs : slots ≤ sk) : Go p e below (WG Z EL s Q ck sk) (T.setTop (mkF m pc Ls (w :: S))) :=
  r_genw D hEW (fun h => by rw [hret] at h; cases h) hlk (fun fs hr => retOut D.st D.ex hret (by cases t <;> first | (cases ht; done) | rfl) (Or.inr (Or.inr (Or.inr (Or.inr ⟨rfl, ht, hw⟩)))) (hb D.cb hd) hr) hQ hc hs
theorem r_Vw (D : Wk p l e R m args below meth c own bytes maxL Z (WI Z EL s) s' T locs cells slots h) (hEW : EW Z a0 EL) (hret : meth.sig.returnType = none) (hlk : meth.locks = false) (hd : decode bytes pc = .ok (.return_, 1)) (hQ : Q none h locs) (hc : cells ≤ ck) (hs : slots ≤ sk) : Go p e below (WG Z EL s Q ck sk) (T.setTop (mkF m pc Ls [])) :=
  r_genw D hEW (fun _ => rfl) hlk (fun fs hr => D.st.returnOut D.ex hret (hb D.cb hd) hr) hQ hc hs
/-- a contract of a body that may load literals -/
abbrev ConW (l : Launch) (y : MethodName) (bytes : ByteArray) (maxL : Nat) (ret : Option FieldType) (ws : List Jvm.Cond) (rm : Room) (Z : State) (EL : List (String × Nat)) (as' : Array Value) (h0 : Heap) (Q : Option Value → Heap → List Loc → Prop) (ck sk : Nat) : Prop :=
  MetFree l y (head1 (Jvm.Cond.code y bytes maxL ret :: ws) rm) (fun a U => a = as' ∧ Z.Warmed39 U.vm ∧ U.heap = h0 ∧ CHv Z EL U.vm h0) (fun _ _ _ _ _ => True) (fun _ U o U' => ∃ v L, o = .returned v ∧ Q v U'.heap L ∧ CHr Z EL U.vm U.heap U'.vm U'.heap ∧ ReturnedEndW U o U' L ck sk)
theorem enterW {y : MethodName} {ret : Option FieldType} {ws : List Jvm.Cond} {rm : Room} {as' : Array Value} {h0 : Heap} (hpl : plainFor y = true)
    (k : ∀ p e s m below meth c s₁, meth.name = y.name → meth.sig.returnType = ret → meth.locks = false → Wk p l e rm m as' below meth c y.cls bytes maxL Z (WI Z EL s) s s₁ [] 0 0 h0 → Go p e below (WG Z EL s Q ck sk) (s₁.setTop (entryFrame m as' maxL))) :
    ConW l y bytes maxL ret ws rm Z EL as' h0 Q ck sk := by
  refine MetFree.of_bodySF hpl hisR ?_
  intro p e s m args below meth c s₁ Bd hml0 hP hK
  obtain ⟨rfl, hZ, hh, hC⟩ := hP
  have X0 : Stand p l e rm s m _ below meth c s₁ [] 0 0 := Stand.of_body Bd
  exact k p e s m below meth c s₁ (name_of_methodNamed Bd.named Bd.method).1 Bd.returns Bd.notSynchronized ⟨X0, by rw [← hh, Bd.state]; rfl, hZ, findClass_of_methodNamed Bd.named, Bd.exec, Bd.bytes, hml0, s.vm, s.heap.size, (State.setVm_self s).symm, (State.WarmedH.refl s).since _, by rw [hh]; exact Nat.le_refl _, by rw [hh]; exact CHr.refl hC⟩
theorem g_callSW (D : Wk p l e R m args below meth c own bytes maxL Z (WI Z EL s) s' T locs cells slots h) (pc' : Nat) {index : Nat} {y : MethodName} {bz : ByteArray} {mL : Nat} {ret' : Option FieldType} {rm : Room} {as' : Array Value} (hEW : EW Z a0 EL) (w1 : (Cond.methodLink own index y).before a0 Z = true) (w2 : (Cond.static y).before a0 Z = true) (w3 : (Cond.initialized y.cls).before a0 Z = true) (w4 : (Cond.code y bz mL ret').before a0 Z = true) (hy : y.cls ≠ "java/lang/invoke/MethodHandle" ∧ y.cls ≠ "java/lang/invoke/VarHandle")
    (hM : ConW l y bz mL ret' [] rm Z EL as' h Q rm.cells rm.slots) (hsz : Ls.size = maxL) (argsL : List Value) (has : argsL.toArray = as') (hlen : ∀ sig, parseMethodDescriptor y.desc = some sig → argsL.length = sig.parameters.length) {S0 : List Value} (hst : S0 = argsL.reverse ++ S) (W : Nat) (hW : (S.map fun v => v.category).sum ≤ W) (hf : rm.frames + 1 ≤ R.frames) (hlo : W + (mL + 11) + rm.locals ≤ R.locals) (hc : cells + rm.cells ≤ R.cells) (hl : slots + rm.slots ≤ R.slots) (hd : decode bytes pc = .ok (.invokestatic index, 3)) (hp : pc + 3 = pc')
    (hr : ∀ v s'' T' h' L, Q v h' L → (∀ x, x < h.size → Safe Z EL s'.vm h x → Safe Z EL s''.vm h' x) → Wk p l e R m args below meth c own bytes maxL Z (WI Z EL s) s'' T' (locs ++ L) (cells + rm.cells) (slots + rm.slots) h' → Go p e below G (T'.setTop (mkF m pc' Ls (v.toList ++ S)))) : Go p e below G (T.setTop (mkF m pc Ls S0)) := by
  subst hp hst
  obtain ⟨vm0, k0, rfl, q2, q3, q4⟩ := D.iv
  obtain ⟨v, _, ⟨T', L', k', n'⟩, -, X', hS', hg, ⟨L, hQ, l', y', z', hR⟩, st⟩ := callSS D.st D.ex D.ow (mvT D.wm w1) (mvT D.wm w2) (mvT D.wm w3) (mvT D.wm w4) hy (backOfSH (s := s) (W := W) hM D.wm w4 w3 hf hlo hEW q4.1) (g := mkF m pc Ls (argsL.reverse ++ S)) rfl (by rw [D.ml]; exact hsz) (argsL := argsL) (rest := S) hlen rfl (by simpa using hW) (hb D.cb hd) (fun _ _ => ⟨has, D.eq, hc, hl⟩)
  dsimp only at X' l' y' z' st hQ hS' hg hR
  subst l' y' z'
  obtain ⟨X2, S2, Z2, O2⟩ := rebS q2 (n1 := T.heap.size) (by rw [D.eq]; exact q3) X' hS' hg D.wm D.ow
  exact Go.mono (fun t k => st.trans k) (hr v (s.setVm T'.vm) T' T'.heap L hQ (fun x hx Sx => hR.safe hx Sx) ⟨X2, rfl, Z2, O2, D.ex, D.cb, D.ml, T'.vm, _, rfl, S2, Nat.le_refl _, q4.trans hR⟩)
theorem g_callNW (D : Wk p l e R m args below meth c own bytes maxL Z (WI Z EL s) s' T locs cells slots h) (pc' : Nat) {index : Nat} {y : MethodName} {bz : ByteArray} {mL : Nat} {rm : Room} {as' : Array Value} (hEW : EW Z a0 EL) (hy1 : y.name = "<init>") (w1 : (Cond.methodLink own index y).before a0 Z = true) (w2 : (Cond.instanceMethod y).before a0 Z = true) (w3 : (Cond.initialized y.cls).before a0 Z = true) (w4 : (Cond.code y bz mL none).before a0 Z = true) (hy : y.cls ≠ "java/lang/invoke/MethodHandle" ∧ y.cls ≠ "java/lang/invoke/VarHandle")
    (hM : ConW l y bz mL none [] rm Z EL as' h Q rm.cells rm.slots) {b : Addr} (hsz : Ls.size = maxL) (argsL : List Value) (has : (.ref b :: argsL).toArray = as') (hlen : ∀ sig, parseMethodDescriptor y.desc = some sig → argsL.length = sig.parameters.length) {S0 : List Value} (hst : S0 = argsL.reverse ++ .ref b :: S) (W : Nat) (hW : (S.map fun v => v.category).sum ≤ W) (hf : rm.frames + 1 ≤ R.frames) (hlo : W + (mL + 11) + rm.locals ≤ R.locals) (hc : cells + rm.cells ≤ R.cells) (hl : slots + rm.slots ≤ R.slots) (hd : decode bytes pc = .ok (.invokespecial index, 3)) (hp : pc + 3 = pc')
    (hr : ∀ v s'' T' h' L, Q v h' L → (∀ x, x < h.size → Safe Z EL s'.vm h x → Safe Z EL s''.vm h' x) → Wk p l e R m args below meth c own bytes maxL Z (WI Z EL s) s'' T' (locs ++ L) (cells + rm.cells) (slots + rm.slots) h' → Go p e below G (T'.setTop (mkF m pc' Ls (v.toList ++ S)))) : Go p e below G (T.setTop (mkF m pc Ls S0)) := by
  subst hp hst
  obtain ⟨vm0, k0, rfl, q2, q3, q4⟩ := D.iv
  obtain ⟨v, _, ⟨T', L', k', n'⟩, -, X', hS', hg, ⟨L, hQ, l', y', z', hR⟩, st⟩ := D.st.specialBackS D.ex (y := y) hy1 D.ow (mvT D.wm w1) (mvT D.wm w2) (mvT D.wm w4) hy (backOfSH (s := s) (W := W) hM D.wm w4 w3 hf hlo hEW q4.1) (g := mkF m pc Ls (argsL.reverse ++ .ref b :: S)) rfl (by rw [D.ml]; exact hsz) (Steps.refl _) (a := b) (argsL := argsL) (rest := S) hlen rfl (by simpa using hW) (hb D.cb hd) (fun _ _ => ⟨has, D.eq, hc, hl⟩)
  dsimp only at X' l' y' z' st hQ hS' hg hR
  subst l' y' z'
  obtain ⟨X2, S2, Z2, O2⟩ := rebS q2 (n1 := T.heap.size) (by rw [D.eq]; exact q3) X' hS' hg D.wm D.ow
  exact Go.mono (fun t k => st.trans k) (hr v (s.setVm T'.vm) T' T'.heap L hQ (fun x hx Sx => hR.safe hx Sx) ⟨X2, rfl, Z2, O2, D.ex, D.cb, D.ml, T'.vm, _, rfl, S2, Nat.le_refl _, q4.trans hR⟩)
theorem g_callVW (D : Wk p l e R m args below meth c own bytes maxL Z (WI Z EL s) s' T locs cells slots h) (pc' : Nat) {index : Nat} {y z : MethodName} {C : String} {bz : ByteArray} {mL : Nat} {ret' : Option FieldType} {rm : Room} {as' : Array Value} (hEW : EW Z a0 EL) (w1 : (Cond.methodLink own index y).before a0 Z = true) (w2 : (Cond.declares y).before a0 Z = true) (hnf : NotFace s' y) (w6 : (Cond.selects C y z).before a0 Z = true) (w7 : (Cond.instanceMethod z).before a0 Z = true) (w3 : (Cond.initialized z.cls).before a0 Z = true) (w4 : (Cond.code z bz mL ret').before a0 Z = true) (hy : y.cls ≠ "java/lang/invoke/MethodHandle" ∧ y.cls ≠ "java/lang/invoke/VarHandle")
    (hM : ConW l z bz mL ret' [] rm Z EL as' h Q rm.cells rm.slots) {b : Addr} (E : Exa Z h b C) (hsz : Ls.size = maxL) (argsL : List Value) (has : (.ref b :: argsL).toArray = as') (hlen : ∀ sig, parseMethodDescriptor y.desc = some sig → argsL.length = sig.parameters.length) {S0 : List Value} (hst : S0 = argsL.reverse ++ .ref b :: S) (W : Nat) (hW : (S.map fun v => v.category).sum ≤ W) (hf : rm.frames + 1 ≤ R.frames) (hlo : W + (mL + 11) + rm.locals ≤ R.locals) (hc : cells + rm.cells ≤ R.cells) (hl : slots + rm.slots ≤ R.slots) (hd : decode bytes pc = .ok (.invokevirtual index, 3)) (hp : pc + 3 = pc')
    (hr : ∀ v s'' T' h' L, Q v h' L → (∀ x, x < h.size → Safe Z EL s'.vm h x → Safe Z EL s''.vm h' x) → Wk p l e R m args below meth c own bytes maxL Z (WI Z EL s) s'' T' (locs ++ L) (cells + rm.cells) (slots + rm.slots) h' → Go p e below G (T'.setTop (mkF m pc' Ls (v.toList ++ S)))) : Go p e below G (T.setTop (mkF m pc Ls S0)) := by
  subst hp hst
  obtain ⟨cq, kq, qa, qb, qc⟩ := isOf D.wm D.eq E
  obtain ⟨vm0, k0, rfl, q2, q3, q4⟩ := D.iv
  obtain ⟨v, _, ⟨T', L', k', n'⟩, -, X', hS', hg, ⟨L, hQ, l', y', z', hR⟩, st⟩ := D.st.virtualBackS D.ex (y := y) (z := z) D.ow (mvT D.wm w1) (mvT D.wm w2) hnf (mvT D.wm w6) (mvT D.wm w7) hy (backOfSH (s := s) (W := W) hM D.wm w4 w3 hf hlo hEW q4.1) qa qc (g := mkF m pc Ls (argsL.reverse ++ .ref b :: S)) rfl (by rw [D.ml]; exact hsz) (Steps.refl _) (argsL := argsL) (rest := S) hlen rfl (by simpa using hW) (hb D.cb hd) (fun _ _ => ⟨has, D.eq, hc, hl⟩)
  dsimp only at X' l' y' z' st hQ hS' hg hR
  subst l' y' z'
  obtain ⟨X2, S2, Z2, O2⟩ := rebS q2 (n1 := T.heap.size) (by rw [D.eq]; exact q3) X' hS' hg D.wm D.ow
  exact Go.mono (fun t k => st.trans k) (hr v (s.setVm T'.vm) T' T'.heap L hQ (fun x hx Sx => hR.safe hx Sx) ⟨X2, rfl, Z2, O2, D.ex, D.cb, D.ml, T'.vm, _, rfl, S2, Nat.le_refl _, q4.trans hR⟩)
theorem g_ldcS (D : Wk p l e R m args below meth c own bytes maxL Z (WI Z EL s) s' T locs cells slots h) (pc' : Nat) {text : String} {index : Nat} (hEW : EW Z a0 EL) (w : (Cond.stringLink own index text).before a0 Z = true) (wS : ∀ a ∈ Bundle.stringAtoms, a.before a0 Z = true) (hmem : (own, index) ∈ EL) (cs : List Int32) (n : Nat) (ht : (∀ c ∈ text.toList, c.toNat < 256) ∧ text.toList.map (fun c => Value.int (Jvm.Lit.byteI c.toNat.toUInt16)) = (cs.map StrChars.lo8).map Value.int) (hcs : (∀ c ∈ cs, ¬ c < 0 ∧ ¬ (255 : Int32) < c) ∧ cs.length ≤ 4000) (hn : 4 * text.toList.length ≤ n) (hbig : n ≤ 536870912) (hd : decode bytes pc = .ok (.ldc index, 2)) (hc : cells + 2 ≤ R.cells) (hl : slots + (n + 4) ≤ R.slots) (hp : pc + 2 = pc')
    (hr : ∀ s'' T' h' a t kb, Ext h h' → Exa Z h' a "java/lang/String" → Fld Z h' a "java/lang/String" "coder" "B" (.int 0) → Fld Z h' a "java/lang/String" "value" "[B" (.ref t) → Arv Z h' t kb .byte (Int32.ofNat cs.length) ((cs.map StrChars.lo8).map Value.int) (.int 0) → (∀ x, Safe Z EL s''.vm h' x → x ≠ a ∧ x ≠ t) → (∀ x, x < h.size → Safe Z EL s'.vm h x → Safe Z EL s''.vm h' x) → Wk p l e R m args below meth c own bytes maxL Z (WI Z EL s) s'' T' locs (cells + 2) (slots + (n + 4)) h' → Go p e below G (T'.setTop (mkF m pc' Ls (.ref a :: S)))) : Go p e below G (T.setTop (mkF m pc Ls S)) := by
  subst hp
  obtain ⟨vm0, k0, rfl, q2, q3, q4⟩ := D.iv
  have hz : ¬ (Int32.ofNat cs.length) < 0 := by
    have q : (Int32.ofNat cs.length).toInt = cs.length := Int32.toInt_ofNat_small (by omega)
    rw [Int32.lt_iff_toInt_lt, q, show (0 : Int32).toInt = 0 from rfl]; omega
  have hz2 : (Int32.ofNat cs.length).toNatClampNeg = ((cs.map StrChars.lo8).map Value.int).length := by
    have q : (Int32.ofNat cs.length).toInt = cs.length := Int32.toInt_ofNat_small (by omega)
    simp only [Int32.toNatClampNeg, q, List.length_map]; omega
  obtain ⟨a, T', h', k1, b, k, X', e', E', S', hk', Z', O', x1, x2, x3, x4, -, -, hR, -, hsf, st⟩ := ldcCH (s := s) D.st D.ex D.wm D.ow w wS D.eq q2 q3 hEW hmem q4.1 ht hz hz2 (g := mkF m pc Ls S) rfl (hb D.cb hd) hn hbig hc hl
  exact Go.mono st (hr (s.setVm T'.vm) T' h' a b k E' x1 x2 x3 x4 hsf (fun x hx Sx => hR.safe hx Sx) ⟨X', e', Z', O', D.ex, D.cb, D.ml, T'.vm, k1, rfl, S', hk', q4.trans hR⟩)
/-- the same, where the contract speaks of the tables at the end too -/
def WGv (Z : State) (EL : List (String × Nat)) (s : State) (Q : Option Value → Vm → Heap → List Loc → Prop) (ck sk : Nat) : Outcome → State → Prop := fun o U' => ∃ v L, o = .returned v ∧ Q v U'.vm U'.heap L ∧ CHr Z EL s.vm s.heap U'.vm U'.heap ∧ ReturnedEndW s o U' L ck sk
abbrev ConV (l : Launch) (y : MethodName) (bytes : ByteArray) (maxL : Nat) (ret : Option FieldType) (ws : List Jvm.Cond) (rm : Room) (Z : State) (EL : List (String × Nat)) (as' : Array Value) (h0 : Heap) (Q : Option Value → Vm → Heap → List Loc → Prop) (ck sk : Nat) : Prop :=
  MetFree l y (head1 (Jvm.Cond.code y bytes maxL ret :: ws) rm) (fun a U => a = as' ∧ Z.Warmed39 U.vm ∧ U.heap = h0 ∧ CHv Z EL U.vm h0) (fun _ _ _ _ _ => True) (fun _ U o U' => ∃ v L, o = .returned v ∧ Q v U'.vm U'.heap L ∧ CHr Z EL U.vm U.heap U'.vm U'.heap ∧ ReturnedEndW U o U' L ck sk)
theorem enterV {y : MethodName} {ret : Option FieldType} {ws : List Jvm.Cond} {rm : Room} {as' : Array Value} {h0 : Heap} {Qv : Option Value → Vm → Heap → List Loc → Prop} (hpl : plainFor y = true)
    (k : ∀ p e s m below meth c s₁, meth.name = y.name → meth.sig.returnType = ret → meth.locks = false → Wk p l e rm m as' below meth c y.cls bytes maxL Z (WI Z EL s) s s₁ [] 0 0 h0 → Go p e below (WGv Z EL s Qv ck sk) (s₁.setTop (entryFrame m as' maxL))) :
    ConV l y bytes maxL ret ws rm Z EL as' h0 Qv ck sk := by
  refine MetFree.of_bodySF hpl hisR ?_
  intro p e s m args below meth c s₁ Bd hml0 hP hK
  obtain ⟨rfl, hZ, hh, hC⟩ := hP
  have X0 : Stand p l e rm s m _ below meth c s₁ [] 0 0 := Stand.of_body Bd
  exact k p e s m below meth c s₁ (name_of_methodNamed Bd.named Bd.method).1 Bd.returns Bd.notSynchronized ⟨X0, by rw [← hh, Bd.state]; rfl, hZ, findClass_of_methodNamed Bd.named, Bd.exec, Bd.bytes, hml0, s.vm, s.heap.size, (State.setVm_self s).symm, (State.WarmedH.refl s).since _, by rw [hh]; exact Nat.le_refl _, by rw [hh]; exact CHr.refl hC⟩
theorem r_Av (D : Wk p l e R m args below meth c own bytes maxL Z (WI Z EL s) s' T locs cells slots h) (hEW : EW Z a0 EL) {t : FieldType} {w : Value} {Qv : Option Value → Vm → Heap → List Loc → Prop} (hret : meth.sig.returnType = some t) (ht : t.isReference = true) (hw : w.isRef = true) (hlk : meth.locks = false) (hd : decode bytes pc = .ok (.areturn, 1)) (hQ : ∀ vm1, (∀ x, x < h.size → Safe Z EL s'.vm h x → Safe Z EL vm1 h x) → Qv (some w) vm1 h locs) (hc : cells ≤ ck) (hs : slots ≤ sk) : Go p e below (WGv Z EL s Qv ck sk) (T.setTop (mkF m pc Ls (w :: S))) := by
  obtain ⟨vm0, k0, rfl, q2, q3, q4⟩ := D.iv
  obtain ⟨fs, hr, hrun, hended, hW⟩ := D.st.leaveW q2 (by rw [D.eq]; exact q3) (v := some w) (fun h => by rw [hret] at h; cases h) hlk
  have hR := CHv.at D.st D.wm hEW q4.1
  refine ⟨_, _, retOut D.st D.ex hret (by cases t <;> first | (cases ht; done) | rfl) (Or.inr (Or.inr (Or.inr (Or.inr ⟨rfl, ht, hw⟩)))) (hb D.cb hd) hr, hrun, hended, _, _, rfl, ?_, ?_, hW.1, hW.2.1, hW.2.2.1, hW.2.2.2.mono hc hs⟩
  · show Qv (some w) T.vm T.heap locs
    rw [D.eq]; exact hQ _ fun x hx Sx => hR.safe hx Sx
  · show CHr Z EL s.vm s.heap T.vm T.heap
    rw [D.eq]; exact q4.trans hR
theorem backOfSHv {vm0 : Vm} {y : MethodName} {ret : Option FieldType} {rm : Room} {len W : Nat} {as' : Array Value} {Qv : Option Value → Vm → Heap → List Loc → Prop} (hM : ConV l y bytes maxL ret [] rm Z EL as' h Qv rm.cells rm.slots)
    (hZ : Z.Warmed39 vm0) (wc : (Cond.code y bytes maxL ret).before a0 Z = true) (wz : (Cond.initialized y.cls).before a0 Z = true) (hf : rm.frames + 1 ≤ R.frames) (hl : W + (maxL + 11) + rm.locals ≤ R.locals) (hEL : EW Z a0 EL) (H : CHv Z EL vm0 h) :
    BackS l R p e below (s.setVm vm0) args y len W (fun A a => a = as' ∧ A.U.heap = h ∧ A.cells + rm.cells ≤ R.cells ∧ A.slots + rm.slots ≤ R.slots)
      (fun A _ v B => ∃ L, Qv v B.U.vm B.U.heap L ∧ B.locs = A.locs ++ L ∧ B.cells = A.cells + rm.cells ∧ B.slots = A.slots + rm.slots ∧ CHr Z EL vm0 h B.U.vm B.U.heap) :=
  BackS.of_freeW (bytes := bytes) (maxL := maxL) (ret := ret) (E := fun _ first o t L k n => k = rm.cells ∧ n = rm.slots ∧ (∃ v, o = .returned v ∧ Qv v t.vm t.heap L) ∧ CHr Z EL first.vm first.heap t.vm t.heap) hM hf hl
    (fun m meth c A a Y hp => have hU : Z.Warmed39 A.U.vm := wtrans (s := s.setVm vm0) hZ Y.warmed
      ⟨by show (Cond.and _ .tt).before a A.U = true; rw [Cond.before_and, mv hU wc]; rfl, mv hU wc, mv hU wz, hp.2.2.1, hp.2.2.2⟩)
    (fun m meth c A a g mk Y hp => ⟨hp.1, wtrans (s := s.setVm vm0) hZ Y.warmed, hp.2.1, (CHv.at Y hZ hEL H).1⟩) (fun _ _ _ _ _ _ _ _ _ => trivial)
    (fun _ _ _ _ ⟨v, L, h1, h2, h3, h4⟩ => ⟨L, _, _, h4, rfl, rfl, ⟨v, h1, h2⟩, h3⟩)
    (fun m meth c A a g mk v t L k n Y hp _ _ ⟨e1, e2, ⟨v', e3, e4⟩, e5⟩ => by
      cases e3; subst e1 e2
      refine ⟨L, e4, rfl, rfl, rfl, (CHv.at Y hZ hEL H).trans ?_⟩
      rw [← hp.2.1]; exact e5)
theorem g_callSV (D : Wk p l e R m args below meth c own bytes maxL Z (WI Z EL s) s' T locs cells slots h) (pc' : Nat) {index : Nat} {y : MethodName} {bz : ByteArray} {mL : Nat} {ret' : Option FieldType} {rm : Room} {as' : Array Value} {Qv : Option Value → Vm → Heap → List Loc → Prop} (hEW : EW Z a0 EL) (w1 : (Cond.methodLink own index y).before a0 Z = true) (w2 : (Cond.static y).before a0 Z = true) (w3 : (Cond.initialized y.cls).before a0 Z = true) (w4 : (Cond.code y bz mL ret').before a0 Z = true) (hy : y.cls ≠ "java/lang/invoke/MethodHandle" ∧ y.cls ≠ "java/lang/invoke/VarHandle")
    (hM : ConV l y bz mL ret' [] rm Z EL as' h Qv rm.cells rm.slots) (hsz : Ls.size = maxL) (argsL : List Value) (has : argsL.toArray = as') (hlen : ∀ sig, parseMethodDescriptor y.desc = some sig → argsL.length = sig.parameters.length) {S0 : List Value} (hst : S0 = argsL.reverse ++ S) (W : Nat) (hW : (S.map fun v => v.category).sum ≤ W) (hf : rm.frames + 1 ≤ R.frames) (hlo : W + (mL + 11) + rm.locals ≤ R.locals) (hc : cells + rm.cells ≤ R.cells) (hl : slots + rm.slots ≤ R.slots) (hd : decode bytes pc = .ok (.invokestatic index, 3)) (hp : pc + 3 = pc')
    (hr : ∀ v s'' T' h' L, Qv v s''.vm h' L → (∀ x, x < h.size → Safe Z EL s'.vm h x → Safe Z EL s''.vm h' x) → Wk p l e R m args below meth c own bytes maxL Z (WI Z EL s) s'' T' (locs ++ L) (cells + rm.cells) (slots + rm.slots) h' → Go p e below G (T'.setTop (mkF m pc' Ls (v.toList ++ S)))) : Go p e below G (T.setTop (mkF m pc Ls S0)) := by
  subst hp hst
  obtain ⟨vm0, k0, rfl, q2, q3, q4⟩ := D.iv
  obtain ⟨v, _, ⟨T', L', k', n'⟩, -, X', hS', hg, ⟨L, hQ, l', y', z', hR⟩, st⟩ := callSS D.st D.ex D.ow (mvT D.wm w1) (mvT D.wm w2) (mvT D.wm w3) (mvT D.wm w4) hy (backOfSHv (s := s) (W := W) hM D.wm w4 w3 hf hlo hEW q4.1) (g := mkF m pc Ls (argsL.reverse ++ S)) rfl (by rw [D.ml]; exact hsz) (argsL := argsL) (rest := S) hlen rfl (by simpa using hW) (hb D.cb hd) (fun _ _ => ⟨has, D.eq, hc, hl⟩)
  dsimp only at X' l' y' z' st hQ hS' hg hR
  subst l' y' z'
  obtain ⟨X2, S2, Z2, O2⟩ := rebS q2 (n1 := T.heap.size) (by rw [D.eq]; exact q3) X' hS' hg D.wm D.ow
  exact Go.mono (fun t k => st.trans k) (hr v (s.setVm T'.vm) T' T'.heap L hQ (fun x hx Sx => hR.safe hx Sx) ⟨X2, rfl, Z2, O2, D.ex, D.cb, D.ml, T'.vm, _, rfl, S2, Nat.le_refl _, q4.trans hR⟩)
end Wide
theorem safe_null {Z : State} {EL : List (String × Nat)} {vm : Vm} {h : Heap} {x : Addr} (hal : Z.vm.Alike vm) (E : Exa Z h x "java/lang/String") (V : Fld Z h x "java/lang/String" "value" "[B" .null) : Safe Z EL vm h x := fun B => by
  obtain ⟨p, -, u, a, -, q, -, F, rfl | rfl⟩ := B
  · obtain ⟨cell, cf, k, i, f, h1, h2, -, -, -, -, h7⟩ := V
    cases (show h[q.sa]? = some q.sC from F.ha).symm.trans h1
    obtain ⟨cS, ⟨⟨-, -, -, ⟨c1, k1, i1, f1, -⟩, -, -, -, v1, -⟩, -⟩, -⟩ := F
    obtain ⟨k3, e3, -⟩ := State.fieldFound?_setVm (s := Z) hal h2
    have e4 := (show (Wst Z vm h).fieldFound? _ _ _ = _ from e3).symm.trans f1
    simp only [Option.some.injEq, Prod.mk.injEq] at e4
    rw [e4.2.2.2, v1] at h7
    cases h7
  · obtain ⟨cell, k, e1, e2, e3, -, -⟩ := E
    cases (show h[q.sd]? = some q.SA from F.hd).symm.trans e1
    obtain ⟨cS, -, -, f, -⟩ := F
    have f' : vm.findClass "[B" = some q.SA.cls := f
    rw [hal.findClass] at f'
    obtain ⟨k1, q1, q2⟩ := Vm.findClass_spec f'
    obtain ⟨k2, q3, q4⟩ := Vm.findClass_spec e2
    cases q1.symm.trans q3
    exact absurd (q2.symm.trans q4) (by decide)
theorem Keep.toExt {h h' : Heap} (K : Keep h h' []) : Ext h h' := ⟨K.1, fun a c q => K.2.1 a c q nin0⟩
theorem Ext.trans' {h h1 h2 : Heap} (E : Ext h h1) (F : Ext h1 h2) : Ext h h2 := ⟨Nat.le_trans E.1 F.1, fun a c q => F.2 a c (E.2 a c q)⟩
/-- a char below 256 -/
abbrev B8 (c : Int32) : Prop := ¬ c < 0 ∧ ¬ (255 : Int32) < c
theorem b8_nil : ∀ c ∈ ([] : List Int32), B8 c := fun _ q => nomatch q
theorem b8_cons {a : Int32} {L : List Int32} (h : B8 a) (r : ∀ c ∈ L, B8 c) : ∀ c ∈ a :: L, B8 c := fun c q => (List.mem_cons.mp q).elim (fun e => e ▸ h) (r c)
theorem i2c_ch {c : Int32} (h0 : ¬ c < 0) (h1 : ¬ (65535 : Int32) < c) : c.toUInt32.toUInt16.toUInt32.toInt32 = c := by
  rw [Int32.lt_iff_toInt_lt, show (0 : Int32).toInt = 0 from rfl] at h0
  rw [Int32.lt_iff_toInt_lt, show (65535 : Int32).toInt = 65535 from rfl] at h1
  have e : c.toInt = c.toBitVec.toNat := by
    have q : c.toInt = c.toBitVec.toInt := rfl
    have lt := c.toBitVec.isLt
    rw [q, BitVec.toInt_eq_toNat_cond] at h0
    rw [q, BitVec.toInt_eq_toNat_cond]
    by_cases g : 2 * c.toBitVec.toNat < 2 ^ 32
    · rw [if_pos g]
    · rw [if_neg g] at h0; omega
  apply Int32.toBitVec_inj.mp
  apply BitVec.eq_of_toNat_eq
  show (c.toUInt32.toUInt16.toUInt32).toBitVec.toNat = _
  have q : (c.toUInt32.toUInt16.toUInt32).toNat = c.toUInt32.toNat % 65536 := by simp
  have q2 : c.toUInt32.toNat = c.toBitVec.toNat := rfl
  show (c.toUInt32.toUInt16.toUInt32).toNat = _
  rw [q, q2]; omega
theorem nar_c {c : Int32} (h : B8 c) : nar .char c = c := i2c_ch h.1 (fun q => h.2 (Int32.lt_trans (by decide) q))
theorem b8_and (x : Int32) : B8 (x &&& (255 : Int32)) := by
  have h : (x &&& 255).toBitVec.toNat < 256 := by
    simp only [Int32.toBitVec_and, BitVec.toNat_and]
    exact Nat.lt_succ_of_le Nat.and_le_right
  have e : (x &&& 255).toInt = (x &&& 255).toBitVec.toNat := by
    show (x &&& 255).toBitVec.toInt = _
    rw [BitVec.toInt_eq_toNat_cond, if_pos (by omega)]
  show ¬ (x &&& 255) < 0 ∧ ¬ (255 : Int32) < (x &&& 255)
  rw [Int32.lt_iff_toInt_lt, Int32.lt_iff_toInt_lt, e, show (0 : Int32).toInt = 0 from rfl, show (255 : Int32).toInt = 255 from rfl]
  omega
theorem and_le (x : Int32) {k : Int32} {K : Nat} (hk : k.toBitVec.toNat = K) (hK : K < 2147483648) : 0 ≤ (x &&& k).toInt ∧ (x &&& k).toInt ≤ K := by
  have h : (x &&& k).toBitVec.toNat ≤ K := by
    simp only [Int32.toBitVec_and, BitVec.toNat_and]
    rw [← hk]; exact Nat.and_le_right
  have e : (x &&& k).toInt = (x &&& k).toBitVec.toNat := by
    show (x &&& k).toBitVec.toInt = _
    rw [BitVec.toInt_eq_toNat_cond, if_pos (by omega)]
  rw [e]; omega
theorem i2c_b8 {c : Int32} (h : B8 c) : c.toUInt32.toUInt16.toUInt32.toInt32 = c := i2c_ch h.1 (fun q => h.2 (Int32.lt_trans (by decide) q))
theorem b8_i2c (x : Int32) : B8 ((x &&& (255 : Int32)).toUInt32.toUInt16.toUInt32.toInt32) := by rw [i2c_b8 (b8_and x)]; exact b8_and x
theorem own_r1 : some (Value.int (nar .boolean (1 : Int32))) = some (Value.int 1) := by decide
theorem own_nar1 : nar .boolean (1 : Int32) = 1 := by decide
theorem own_nar0 : nar .boolean (0 : Int32) = 0 := by decide
/-- a boolean that says whether P -/
def own_B (P : Prop) (v : Option Value) : Prop := ∃ r : Int32, v = some (.int r) ∧ ((r = 1 ∧ P) ∨ (r = 0 ∧ ¬ P))
def own_R (P : Prop) (r : Int32) : Prop := (r = 1 ∧ P) ∨ (r = 0 ∧ ¬ P)
theorem own_R.same {P Q : Prop} {r t : Int32} (h : own_R P r) (k : own_R Q t) (e : P ↔ Q) : r = t := by
  rcases h with ⟨rfl, p⟩ | ⟨rfl, p⟩ <;> rcases k with ⟨rfl, q⟩ | ⟨rfl, q⟩
  · rfl
  · exact absurd (e.mp p) q
  · exact absurd (e.mpr q) p
  · rfl
theorem own_R.yes {P : Prop} {r : Int32} (h : own_R P r) (p : P) : r = 1 := by rcases h with ⟨h, -⟩ | ⟨-, n⟩; exact h; exact absurd p n
theorem own_R.no {P : Prop} {r : Int32} (h : own_R P r) (p : ¬ P) : r = 0 := by rcases h with ⟨-, n⟩ | ⟨h, -⟩; exact absurd n p; exact h
theorem own_ninst {Z : State} {a0 : Array Value} {K : String} {n : Nat} (wS : (Cond.superclass "java/lang/String" "java/lang/Object").before a0 Z = true) (wO : (Cond.noSuperclass "java/lang/Object").before a0 Z = true) (wi : (Cond.instantiable K n).before a0 Z = true) (h1 : "java/lang/String" ≠ K) (h2 : "java/lang/Object" ≠ K) : ∃ c t, Z.vm.findClass "java/lang/String" = some c ∧ Z.vm.findClass K = some t ∧ Z.vm.assignable c t = false := by
  obtain ⟨t, kt, g1, g2, g3, g4, -⟩ := Cond.instantiable_spec wi
  obtain ⟨c, h0⟩ := found_sup wS
  obtain ⟨o, k, ko, e1, e2, e3, e4, e5, -, e7⟩ := Cond.superclass_spec h0 wS
  obtain ⟨o', ko', f1, f2, f3, -⟩ := Cond.noSuperclass_spec wO
  cases e1.symm.trans f1
  have n1 := ids_ne h0 g1 h1
  have n2 := ids_ne f1 g1 h2
  have g6 : kt.isInterface = false := by simp only [Bool.or_eq_false_iff] at g4; exact g4.1
  have q : ∀ fuel, Z.vm.isSubclassAux fuel c t = false := fun fuel => by
    cases fuel with
    | zero => rfl
    | succ f =>
      cases f with
      | zero => simp [Vm.isSubclassAux, n1, e2, e4]
      | succ g => simp [Vm.isSubclassAux, n1, n2, e2, e4, f2, f3]
  refine ⟨c, t, h0, g1, ?_⟩
  show Z.vm.assignableAux (255 + 1) c t = false
  simp [Vm.assignableAux, n1, e2, g2, e5, g3, g6, Vm.isSubclass, q]
theorem wsa : ∀ d ∈ Bundle.stringAtoms, d ∈ tables_1 := by decide +kernel
theorem weq : ∀ d ∈ StrChars.Road.wordsEq, d ∈ tables_1 := by decide +kernel
theorem LS.eqB {p : Program} {l : Launch} {e : Env} {R : Room} {m : MethodId} {args : Array Value} {below : List Frame} {meth : Method} {c : Code} {own : String} {bytes : ByteArray} {maxL : Nat} {Z : State} {I : State → Heap → Prop} {s' T : State} {locs : List Loc} {cells slots : Nat} {h h1 : Heap} {a0 : Array Value} {x y : Addr} {cs ds : List Int32} {z : Int32} (W : Nat) {len : Nat}
    (D : Wk p l e R m args below meth c own bytes maxL Z I s' T locs cells slots h1) (hw : ∀ d ∈ tables_1, d.before a0 Z = true) (A : LS Z h x cs) (B : LS Z h y ds) (S : Sta Z h "java/lang/String" "COMPACT_STRINGS" "Z" (.int z)) (hz : ¬ z = 0) (hf : 2 ≤ R.frames) (hl : W + 28 ≤ R.locals) :
    Back l R p e below s' args (⟨"java/lang/String", "equals", "(Ljava/lang/Object;)Z"⟩ : MethodName) len W (fun P a => a = #[.ref x, .ref y] ∧ P.U.heap = h ∧ P.cells + 0 ≤ R.cells ∧ P.slots + 0 ≤ R.slots)
      (fun P _ v B => ∃ L, (((v = some (.int 1) ∧ cs = ds) ∨ (v = some (.int 0) ∧ ¬ cs = ds)) ∧ L = [] ∧ B.U.heap = h) ∧ B.locs = P.locs ++ L ∧ B.cells = P.cells + 0 ∧ B.slots = P.slots + 0) := by
  obtain ⟨t, kb, f1, f2, f3, f4, f5, f6⟩ := A
  obtain ⟨t', kb', g1, g2, g3, g4, g5, g6⟩ := B
  exact StrChars.Road.eqW D.wm (fun d hd => hw d (weq d hd)) (kI := 4) (hw _ w_9) f1 f3 f2 f4 (StrChars.Road.codOf rfl fun c hc => (f5 c hc).2) (up255 f5) f6 g1 g3 g2 g4 (StrChars.Road.codOf rfl fun c hc => (g5 c hc).2) (up255 g5) g6 S hz hf hl
theorem nb_b (c : Int32) : nar .byte (c.toInt8.toInt32) = StrChars.lo8 c := by simp [nar, StrChars.lo8]
/-- a new Latin-1 String that hasn't been hashed -/
def LK (Z : State) (h : Heap) (a : Addr) (cs : List Int32) : Prop := ∃ (t : Addr) (kb : ClassId), Exa Z h a "java/lang/String" ∧ Fld Z h a "java/lang/String" "coder" "B" (.int 0) ∧ Fld Z h a "java/lang/String" "value" "[B" (.ref t) ∧ Arv Z h t kb .byte (Int32.ofNat cs.length) ((cs.map StrChars.lo8).map Value.int) (.int 0) ∧ (∀ c ∈ cs, B8 c) ∧ cs.length ≤ 3 ∧ Fld Z h a "java/lang/String" "hash" "I" (.int (0 : Int32)) ∧ Fld Z h a "java/lang/String" "hashIsZero" "Z" (.int (0 : Int32)) ∧ (cs = [] ∨ Exa Z h t "[B")
theorem LK.exa {Z : State} {h : Heap} {a : Addr} {cs : List Int32} (X : LK Z h a cs) : Exa Z h a "java/lang/String" := by obtain ⟨t, kb, f1, -⟩ := X; exact f1
theorem LK.ext {Z : State} {h h' : Heap} {a : Addr} {cs : List Int32} (X : LK Z h a cs) (E : Ext h h') : LK Z h' a cs := by
  obtain ⟨t, kb, f1, f2, f3, f4, f5, f6, f7, f8, f9⟩ := X; exact ⟨t, kb, f1.ext E, f2.ext E, f3.ext E, f4.ext E, f5, f6, f7.ext E, f8.ext E, f9.imp id fun q => q.ext E⟩
theorem LK.wrC {Z : State} {h h' : Heap} {a b : Addr} {cs : List Int32} {C : String} {n sl : Nat} {v : Value} {a0 : Array Value} (X : LK Z h a cs) (E : Exa Z h b C) (hC : "java/lang/String" ≠ C) (w : (Cond.instantiable C n).before a0 Z = true) (W : Wr h h' b sl v) : LK Z h' a cs := by
  obtain ⟨t, kb, f1, f2, f3, f4, f5, f6, f7, f8, f9⟩ := X
  have n1 := Exa.ne f1 E hC
  have n2 := (Exa.neArv E f4 w).symm
  exact ⟨t, kb, f1.wr W, f2.other W (Or.inl n1), f3.other W (Or.inl n1), f4.other W n2, f5, f6, f7.other W (Or.inl n1), f8.other W (Or.inl n1), f9.imp id fun q => q.wr W⟩
theorem LK.keepS {Z : State} {h h' : Heap} {a b : Addr} {cs : List Int32} {n : Nat} {a0 : Array Value} (X : LK Z h a cs) (E : Exa Z h b "java/lang/String") (hne : a ≠ b) (w : (Cond.instantiable "java/lang/String" n).before a0 Z = true) (K : Keep h h' [b]) : LK Z h' a cs := by
  obtain ⟨t, kb, f1, f2, f3, f4, f5, f6, f7, f8, f9⟩ := X
  have n2 := (Exa.neArv E f4 w).symm
  have q1 : a ∉ [b] := ninS hne nin0
  exact ⟨t, kb, f1.keep K, f2.keep K q1, f3.keep K q1, f4.keep K (ninS n2 nin0), f5, f6, f7.keep K q1, f8.keep K q1, f9.imp id fun q => q.keep K⟩
theorem LS.keepS {Z : State} {h h' : Heap} {a b : Addr} {cs : List Int32} {n : Nat} {a0 : Array Value} (X : LS Z h a cs) (E : Exa Z h b "java/lang/String") (hne : a ≠ b) (w : (Cond.instantiable "java/lang/String" n).before a0 Z = true) (K : Keep h h' [b]) : LS Z h' a cs := by
  obtain ⟨t, kb, f1, f2, f3, f4, f5⟩ := X
  have n2 := (Exa.neArv E f4 w).symm
  have q1 : a ∉ [b] := ninS hne nin0
  exact ⟨t, kb, f1.keep K, f2.keep K q1, f3.keep K q1, f4.keep K (ninS n2 nin0), f5⟩
theorem LS.wrC {Z : State} {h h' : Heap} {a b : Addr} {cs : List Int32} {C : String} {n sl : Nat} {v : Value} {a0 : Array Value} (X : LS Z h a cs) (E : Exa Z h b C) (hC : "java/lang/String" ≠ C) (w : (Cond.instantiable C n).before a0 Z = true) (W : Wr h h' b sl v) : LS Z h' a cs := by
  obtain ⟨t, kb, f1, f2, f3, f4, f5⟩ := X
  have n1 := Exa.ne f1 E hC
  have n2 := (Exa.neArv E f4 w).symm
  exact ⟨t, kb, f1.wr W, f2.other W (Or.inl n1), f3.other W (Or.inl n1), f4.other W n2, f5⟩
def OSv (Z : State) (h : Heap) (v : Value) (o : Option (List Int32)) : Prop := (v = .null ∧ o = none) ∨ ∃ a cs, v = .ref a ∧ o = some cs ∧ LS Z h a cs
theorem OSv.r {Z : State} {h : Heap} {v : Value} {o : Option (List Int32)} (X : OSv Z h v o) : v.isRef = true := by rcases X with ⟨rfl, -⟩ | ⟨a, cs, rfl, -⟩ <;> rfl
theorem OSv.ext {Z : State} {h h' : Heap} {v : Value} {o : Option (List Int32)} (X : OSv Z h v o) (E : Ext h h') : OSv Z h' v o := by
  rcases X with q | ⟨a, cs, q1, q2, q3⟩
  · exact Or.inl q
  · exact Or.inr ⟨a, cs, q1, q2, q3.ext E⟩
theorem OSv.lt {Z : State} {h : Heap} {v : Value} {o : Option (List Int32)} (X : OSv Z h v o) {a : Addr} (q : v = .ref a) : a < h.size := by
  rcases X with ⟨rfl, -⟩ | ⟨b, cs, rfl, -, X⟩
  · cases q
  · cases q; exact X.lt
def own_c (k i : Int32) : Int32 := ((XT.ushr i k) &&& (255 : Int32)).toUInt32.toUInt16.toUInt32.toInt32
theorem own_cb (k i : Int32) : B8 (own_c k i) := b8_i2c _
theorem own_ce (k i : Int32) : own_c k i = (XT.ushr i k) &&& (255 : Int32) := i2c_b8 (b8_and _)
def own_t (n a b c : Int32) : List Int32 := if n = (0 : Int32) then [] else if n = (1 : Int32) then [a] else if n = (2 : Int32) then [a, b] else [a, b, c]
def own_n (i : Int32) : Int32 := (XT.ushr i (2 : Int32)) &&& (3 : Int32)
def own_mk (i : Int32) : Option (List Int32) := if i &&& (3 : Int32) = (0 : Int32) then none else some (own_t (own_n i) (own_c 4 i) (own_c 12 i) (own_c 20 i))
theorem own_mk0 : own_mk (0 : Int32) = none := by decide
theorem own_03 {l : Int32} (h : 0 ≤ l.toInt ∧ l.toInt ≤ 3) : l = 0 ∨ l = 1 ∨ l = 2 ∨ l = 3 := by
  have e : ∀ k : Int32, l.toInt = k.toInt → l = k := fun k q => Int32.toInt_inj.mp q
  have : l.toInt = 0 ∨ l.toInt = 1 ∨ l.toInt = 2 ∨ l.toInt = 3 := by omega
  rcases this with q | q | q | q
  · exact Or.inl (e 0 q)
  · exact Or.inr (Or.inl (e 1 q))
  · exact Or.inr (Or.inr (Or.inl (e 2 q)))
  · exact Or.inr (Or.inr (Or.inr (e 3 q)))
theorem own_n3 (i : Int32) : own_n i = 0 ∨ own_n i = 1 ∨ own_n i = 2 ∨ own_n i = 3 := own_03 (and_le _ (k := 3) (K := 3) (by decide) (by decide))
theorem own_ti {n m a b c a' b' c' : Int32} (hn : n = 0 ∨ n = 1 ∨ n = 2 ∨ n = 3) (hm : m = 0 ∨ m = 1 ∨ m = 2 ∨ m = 3) : own_t n a b c = own_t m a' b' c' ↔ (n = m ∧ (¬ (0 : Int32) < n ∨ a = a') ∧ (¬ (1 : Int32) < n ∨ b = b') ∧ (¬ (2 : Int32) < n ∨ c = c')) := by
  rcases hn with rfl | rfl | rfl | rfl <;> rcases hm with rfl | rfl | rfl | rfl <;> simp [own_t] <;> try decide
theorem own_mi {i j : Int32} : own_mk i = own_mk j ↔ (if i &&& (3 : Int32) = (0 : Int32) then j &&& (3 : Int32) = (0 : Int32) else ¬ j &&& (3 : Int32) = (0 : Int32) ∧ own_n i = own_n j ∧ (¬ (0 : Int32) < own_n i ∨ (XT.ushr i (4 : Int32)) &&& (255 : Int32) = (XT.ushr j (4 : Int32)) &&& (255 : Int32)) ∧ (¬ (1 : Int32) < own_n i ∨ (XT.ushr i (12 : Int32)) &&& (255 : Int32) = (XT.ushr j (12 : Int32)) &&& (255 : Int32)) ∧ (¬ (2 : Int32) < own_n i ∨ (XT.ushr i (20 : Int32)) &&& (255 : Int32) = (XT.ushr j (20 : Int32)) &&& (255 : Int32))) := by
  unfold own_mk
  by_cases hi : i &&& (3 : Int32) = (0 : Int32) <;> by_cases hj : j &&& (3 : Int32) = (0 : Int32) <;> simp only [hi, hj, if_true, if_false, not_true, not_false_iff, true_and, false_and, reduceCtorEq, Option.some.injEq, own_ti (own_n3 i) (own_n3 j), own_ce]
theorem own_l0 {i j : Int32} (k0 : (i &&& (3 : Int32)) = (0 : Int32)) (k1 : (j &&& (3 : Int32)) = (0 : Int32)) : own_mk i = own_mk j := by rw [own_mi]; unfold own_n; simp_all
theorem own_l1 {i j : Int32} (k0 : (i &&& (3 : Int32)) = (0 : Int32)) (k1 : ¬ ((j &&& (3 : Int32)) = (0 : Int32))) : ¬ own_mk i = own_mk j := by rw [own_mi]; unfold own_n; simp_all
theorem own_l2 {i j : Int32} (k0 : ¬ ((i &&& (3 : Int32)) = (0 : Int32))) (k1 : (j &&& (3 : Int32)) = (0 : Int32)) : ¬ own_mk i = own_mk j := by rw [own_mi]; unfold own_n; simp_all
theorem own_l3 {i j : Int32} (k0 : ¬ ((i &&& (3 : Int32)) = (0 : Int32))) (k1 : ¬ ((j &&& (3 : Int32)) = (0 : Int32))) (k2 : ((XT.ushr i (2 : Int32)) &&& (3 : Int32)) = ((XT.ushr j (2 : Int32)) &&& (3 : Int32))) (k3 : (0 : Int32) < ((XT.ushr i (2 : Int32)) &&& (3 : Int32))) (k4 : ((XT.ushr i (4 : Int32)) &&& (255 : Int32)) = ((XT.ushr j (4 : Int32)) &&& (255 : Int32))) (k5 : (1 : Int32) < ((XT.ushr i (2 : Int32)) &&& (3 : Int32))) (k6 : ((XT.ushr i (12 : Int32)) &&& (255 : Int32)) = ((XT.ushr j (12 : Int32)) &&& (255 : Int32))) (k7 : (2 : Int32) < ((XT.ushr i (2 : Int32)) &&& (3 : Int32))) (k8 : ((XT.ushr i (20 : Int32)) &&& (255 : Int32)) = ((XT.ushr j (20 : Int32)) &&& (255 : Int32))) : own_mk i = own_mk j := by rw [own_mi]; unfold own_n; simp_all
theorem own_l4 {i j : Int32} (k0 : ¬ ((i &&& (3 : Int32)) = (0 : Int32))) (k1 : ¬ ((j &&& (3 : Int32)) = (0 : Int32))) (k2 : ((XT.ushr i (2 : Int32)) &&& (3 : Int32)) = ((XT.ushr j (2 : Int32)) &&& (3 : Int32))) (k3 : (0 : Int32) < ((XT.ushr i (2 : Int32)) &&& (3 : Int32))) (k4 : ((XT.ushr i (4 : Int32)) &&& (255 : Int32)) = ((XT.ushr j (4 : Int32)) &&& (255 : Int32))) (k5 : (1 : Int32) < ((XT.ushr i (2 : Int32)) &&& (3 : Int32))) (k6 : ((XT.ushr i (12 : Int32)) &&& (255 : Int32)) = ((XT.ushr j (12 : Int32)) &&& (255 : Int32))) (k7 : (2 : Int32) < ((XT.ushr i (2 : Int32)) &&& (3 : Int32))) (k8 : ¬ (((XT.ushr i (20 : Int32)) &&& (255 : Int32)) = ((XT.ushr j (20 : Int32)) &&& (255 : Int32)))) : ¬ own_mk i = own_mk j := by rw [own_mi]; unfold own_n; simp_all
theorem own_l5 {i j : Int32} (k0 : ¬ ((i &&& (3 : Int32)) = (0 : Int32))) (k1 : ¬ ((j &&& (3 : Int32)) = (0 : Int32))) (k2 : ((XT.ushr i (2 : Int32)) &&& (3 : Int32)) = ((XT.ushr j (2 : Int32)) &&& (3 : Int32))) (k3 : (0 : Int32) < ((XT.ushr i (2 : Int32)) &&& (3 : Int32))) (k4 : ((XT.ushr i (4 : Int32)) &&& (255 : Int32)) = ((XT.ushr j (4 : Int32)) &&& (255 : Int32))) (k5 : (1 : Int32) < ((XT.ushr i (2 : Int32)) &&& (3 : Int32))) (k6 : ((XT.ushr i (12 : Int32)) &&& (255 : Int32)) = ((XT.ushr j (12 : Int32)) &&& (255 : Int32))) (k7 : ¬ ((2 : Int32) < ((XT.ushr i (2 : Int32)) &&& (3 : Int32)))) : own_mk i = own_mk j := by rw [own_mi]; unfold own_n; simp_all
theorem own_l6 {i j : Int32} (k0 : ¬ ((i &&& (3 : Int32)) = (0 : Int32))) (k1 : ¬ ((j &&& (3 : Int32)) = (0 : Int32))) (k2 : ((XT.ushr i (2 : Int32)) &&& (3 : Int32)) = ((XT.ushr j (2 : Int32)) &&& (3 : Int32))) (k3 : (0 : Int32) < ((XT.ushr i (2 : Int32)) &&& (3 : Int32))) (k4 : ((XT.ushr i (4 : Int32)) &&& (255 : Int32)) = ((XT.ushr j (4 : Int32)) &&& (255 : Int32))) (k5 : (1 : Int32) < ((XT.ushr i (2 : Int32)) &&& (3 : Int32))) (k6 : ¬ (((XT.ushr i (12 : Int32)) &&& (255 : Int32)) = ((XT.ushr j (12 : Int32)) &&& (255 : Int32)))) : ¬ own_mk i = own_mk j := by rw [own_mi]; unfold own_n; simp_all
theorem own_l7 {i j : Int32} (k0 : ¬ ((i &&& (3 : Int32)) = (0 : Int32))) (k1 : ¬ ((j &&& (3 : Int32)) = (0 : Int32))) (k2 : ((XT.ushr i (2 : Int32)) &&& (3 : Int32)) = ((XT.ushr j (2 : Int32)) &&& (3 : Int32))) (k3 : (0 : Int32) < ((XT.ushr i (2 : Int32)) &&& (3 : Int32))) (k4 : ((XT.ushr i (4 : Int32)) &&& (255 : Int32)) = ((XT.ushr j (4 : Int32)) &&& (255 : Int32))) (k5 : ¬ ((1 : Int32) < ((XT.ushr i (2 : Int32)) &&& (3 : Int32)))) (k6 : (2 : Int32) < ((XT.ushr i (2 : Int32)) &&& (3 : Int32))) (k7 : ((XT.ushr i (20 : Int32)) &&& (255 : Int32)) = ((XT.ushr j (20 : Int32)) &&& (255 : Int32))) : own_mk i = own_mk j := by rw [own_mi]; unfold own_n; simp_all
theorem own_l8 {i j : Int32} (k0 : ¬ ((i &&& (3 : Int32)) = (0 : Int32))) (k1 : ¬ ((j &&& (3 : Int32)) = (0 : Int32))) (k2 : ((XT.ushr i (2 : Int32)) &&& (3 : Int32)) = ((XT.ushr j (2 : Int32)) &&& (3 : Int32))) (k3 : (0 : Int32) < ((XT.ushr i (2 : Int32)) &&& (3 : Int32))) (k4 : ((XT.ushr i (4 : Int32)) &&& (255 : Int32)) = ((XT.ushr j (4 : Int32)) &&& (255 : Int32))) (k5 : ¬ ((1 : Int32) < ((XT.ushr i (2 : Int32)) &&& (3 : Int32)))) (k6 : (2 : Int32) < ((XT.ushr i (2 : Int32)) &&& (3 : Int32))) (k7 : ¬ (((XT.ushr i (20 : Int32)) &&& (255 : Int32)) = ((XT.ushr j (20 : Int32)) &&& (255 : Int32)))) : ¬ own_mk i = own_mk j := by rw [own_mi]; unfold own_n; simp_all
theorem own_l9 {i j : Int32} (k0 : ¬ ((i &&& (3 : Int32)) = (0 : Int32))) (k1 : ¬ ((j &&& (3 : Int32)) = (0 : Int32))) (k2 : ((XT.ushr i (2 : Int32)) &&& (3 : Int32)) = ((XT.ushr j (2 : Int32)) &&& (3 : Int32))) (k3 : (0 : Int32) < ((XT.ushr i (2 : Int32)) &&& (3 : Int32))) (k4 : ((XT.ushr i (4 : Int32)) &&& (255 : Int32)) = ((XT.ushr j (4 : Int32)) &&& (255 : Int32))) (k5 : ¬ ((1 : Int32) < ((XT.ushr i (2 : Int32)) &&& (3 : Int32)))) (k6 : ¬ ((2 : Int32) < ((XT.ushr i (2 : Int32)) &&& (3 : Int32)))) : own_mk i = own_mk j := by rw [own_mi]; unfold own_n; simp_all
theorem own_l10 {i j : Int32} (k0 : ¬ ((i &&& (3 : Int32)) = (0 : Int32))) (k1 : ¬ ((j &&& (3 : Int32)) = (0 : Int32))) (k2 : ((XT.ushr i (2 : Int32)) &&& (3 : Int32)) = ((XT.ushr j (2 : Int32)) &&& (3 : Int32))) (k3 : (0 : Int32) < ((XT.ushr i (2 : Int32)) &&& (3 : Int32))) (k4 : ¬ (((XT.ushr i (4 : Int32)) &&& (255 : Int32)) = ((XT.ushr j (4 : Int32)) &&& (255 : Int32)))) : ¬ own_mk i = own_mk j := by rw [own_mi]; unfold own_n; simp_all
theorem own_l11 {i j : Int32} (k0 : ¬ ((i &&& (3 : Int32)) = (0 : Int32))) (k1 : ¬ ((j &&& (3 : Int32)) = (0 : Int32))) (k2 : ((XT.ushr i (2 : Int32)) &&& (3 : Int32)) = ((XT.ushr j (2 : Int32)) &&& (3 : Int32))) (k3 : ¬ ((0 : Int32) < ((XT.ushr i (2 : Int32)) &&& (3 : Int32)))) (k4 : (1 : Int32) < ((XT.ushr i (2 : Int32)) &&& (3 : Int32))) (k5 : ((XT.ushr i (12 : Int32)) &&& (255 : Int32)) = ((XT.ushr j (12 : Int32)) &&& (255 : Int32))) (k6 : (2 : Int32) < ((XT.ushr i (2 : Int32)) &&& (3 : Int32))) (k7 : ((XT.ushr i (20 : Int32)) &&& (255 : Int32)) = ((XT.ushr j (20 : Int32)) &&& (255 : Int32))) : own_mk i = own_mk j := by rw [own_mi]; unfold own_n; simp_all
theorem own_l12 {i j : Int32} (k0 : ¬ ((i &&& (3 : Int32)) = (0 : Int32))) (k1 : ¬ ((j &&& (3 : Int32)) = (0 : Int32))) (k2 : ((XT.ushr i (2 : Int32)) &&& (3 : Int32)) = ((XT.ushr j (2 : Int32)) &&& (3 : Int32))) (k3 : ¬ ((0 : Int32) < ((XT.ushr i (2 : Int32)) &&& (3 : Int32)))) (k4 : (1 : Int32) < ((XT.ushr i (2 : Int32)) &&& (3 : Int32))) (k5 : ((XT.ushr i (12 : Int32)) &&& (255 : Int32)) = ((XT.ushr j (12 : Int32)) &&& (255 : Int32))) (k6 : (2 : Int32) < ((XT.ushr i (2 : Int32)) &&& (3 : Int32))) (k7 : ¬ (((XT.ushr i (20 : Int32)) &&& (255 : Int32)) = ((XT.ushr j (20 : Int32)) &&& (255 : Int32)))) : ¬ own_mk i = own_mk j := by rw [own_mi]; unfold own_n; simp_all
theorem own_l13 {i j : Int32} (k0 : ¬ ((i &&& (3 : Int32)) = (0 : Int32))) (k1 : ¬ ((j &&& (3 : Int32)) = (0 : Int32))) (k2 : ((XT.ushr i (2 : Int32)) &&& (3 : Int32)) = ((XT.ushr j (2 : Int32)) &&& (3 : Int32))) (k3 : ¬ ((0 : Int32) < ((XT.ushr i (2 : Int32)) &&& (3 : Int32)))) (k4 : (1 : Int32) < ((XT.ushr i (2 : Int32)) &&& (3 : Int32))) (k5 : ((XT.ushr i (12 : Int32)) &&& (255 : Int32)) = ((XT.ushr j (12 : Int32)) &&& (255 : Int32))) (k6 : ¬ ((2 : Int32) < ((XT.ushr i (2 : Int32)) &&& (3 : Int32)))) : own_mk i = own_mk j := by rw [own_mi]; unfold own_n; simp_all
theorem own_l14 {i j : Int32} (k0 : ¬ ((i &&& (3 : Int32)) = (0 : Int32))) (k1 : ¬ ((j &&& (3 : Int32)) = (0 : Int32))) (k2 : ((XT.ushr i (2 : Int32)) &&& (3 : Int32)) = ((XT.ushr j (2 : Int32)) &&& (3 : Int32))) (k3 : ¬ ((0 : Int32) < ((XT.ushr i (2 : Int32)) &&& (3 : Int32)))) (k4 : (1 : Int32) < ((XT.ushr i (2 : Int32)) &&& (3 : Int32))) (k5 : ¬ (((XT.ushr i (12 : Int32)) &&& (255 : Int32)) = ((XT.ushr j (12 : Int32)) &&& (255 : Int32)))) : ¬ own_mk i = own_mk j := by rw [own_mi]; unfold own_n; simp_all
theorem own_l15 {i j : Int32} (k0 : ¬ ((i &&& (3 : Int32)) = (0 : Int32))) (k1 : ¬ ((j &&& (3 : Int32)) = (0 : Int32))) (k2 : ((XT.ushr i (2 : Int32)) &&& (3 : Int32)) = ((XT.ushr j (2 : Int32)) &&& (3 : Int32))) (k3 : ¬ ((0 : Int32) < ((XT.ushr i (2 : Int32)) &&& (3 : Int32)))) (k4 : ¬ ((1 : Int32) < ((XT.ushr i (2 : Int32)) &&& (3 : Int32)))) (k5 : (2 : Int32) < ((XT.ushr i (2 : Int32)) &&& (3 : Int32))) (k6 : ((XT.ushr i (20 : Int32)) &&& (255 : Int32)) = ((XT.ushr j (20 : Int32)) &&& (255 : Int32))) : own_mk i = own_mk j := by rw [own_mi]; unfold own_n; simp_all
theorem own_l16 {i j : Int32} (k0 : ¬ ((i &&& (3 : Int32)) = (0 : Int32))) (k1 : ¬ ((j &&& (3 : Int32)) = (0 : Int32))) (k2 : ((XT.ushr i (2 : Int32)) &&& (3 : Int32)) = ((XT.ushr j (2 : Int32)) &&& (3 : Int32))) (k3 : ¬ ((0 : Int32) < ((XT.ushr i (2 : Int32)) &&& (3 : Int32)))) (k4 : ¬ ((1 : Int32) < ((XT.ushr i (2 : Int32)) &&& (3 : Int32)))) (k5 : (2 : Int32) < ((XT.ushr i (2 : Int32)) &&& (3 : Int32))) (k6 : ¬ (((XT.ushr i (20 : Int32)) &&& (255 : Int32)) = ((XT.ushr j (20 : Int32)) &&& (255 : Int32)))) : ¬ own_mk i = own_mk j := by rw [own_mi]; unfold own_n; simp_all
theorem own_l17 {i j : Int32} (k0 : ¬ ((i &&& (3 : Int32)) = (0 : Int32))) (k1 : ¬ ((j &&& (3 : Int32)) = (0 : Int32))) (k2 : ((XT.ushr i (2 : Int32)) &&& (3 : Int32)) = ((XT.ushr j (2 : Int32)) &&& (3 : Int32))) (k3 : ¬ ((0 : Int32) < ((XT.ushr i (2 : Int32)) &&& (3 : Int32)))) (k4 : ¬ ((1 : Int32) < ((XT.ushr i (2 : Int32)) &&& (3 : Int32)))) (k5 : ¬ ((2 : Int32) < ((XT.ushr i (2 : Int32)) &&& (3 : Int32)))) : own_mk i = own_mk j := by rw [own_mi]; unfold own_n; simp_all
theorem own_l18 {i j : Int32} (k0 : ¬ ((i &&& (3 : Int32)) = (0 : Int32))) (k1 : ¬ ((j &&& (3 : Int32)) = (0 : Int32))) (k2 : ¬ (((XT.ushr i (2 : Int32)) &&& (3 : Int32)) = ((XT.ushr j (2 : Int32)) &&& (3 : Int32)))) : ¬ own_mk i = own_mk j := by rw [own_mi]; unfold own_n; simp_all
def Q_cC5_1 (Z : State) (b d : Addr) (kc kd : ClassId) (c0 : Int32) (h0 : Heap) (n0 : Nat) : Option Value → Heap → List Loc → Prop := (fun v h L => v = some (.int (1 : Int32)) ∧ Fr n0 L ∧ Keep h0 h [d] ∧ Arv Z h d kd .byte (1 : Int32) [(.int (StrChars.lo8 c0))] (.int (0 : Int32)))
set_option maxRecDepth 65536 in
set_option maxHeartbeats 40000000 in
theorem cC5_1 (l : Launch) (Z : State) (a0 : Array Value) (hw : ∀ d ∈ tables_1, d.before a0 Z = true) (ws : List Jvm.Cond) (b d : Addr) (kc kd : ClassId) (c0 : Int32) (h0 : Heap) (n0 : Nat) (Z0 : n0 ≤ h0.size) (V_b : Arv Z h0 b kc .char (1 : Int32) [(.int c0)] (.int (0 : Int32))) (V_d : Arv Z h0 d kd .byte (1 : Int32) [(.int (0 : Int32))] (.int (0 : Int32))) (gd : n0 ≤ d) (nbd : b ≠ d) (H0 : B8 c0) :
    Con l (⟨"java/lang/StringUTF16", "compress", "([CI[BII)I"⟩ : MethodName) jdk_52_method_21_code 7 (some .int) ws ({ frames := 0, cells := 0, slots := 0, locals := 0 } : Room) Z #[(.ref b), (.int (0 : Int32)), (.ref d), (.int (0 : Int32)), (.int (1 : Int32))] h0 (Q_cC5_1 Z b d kc kd c0 h0 n0) 0 0 := by
  refine enter (plainFor_of_name pn_0) ?_
  intro p e s m below meth c s₁ hnm hret hlk D0
  rw [ef_cC5_1 m b d]
  refine g_iconst D0 1 (0 : Int32) d_jdk_52m21_0 rfl rfl ?_
  refine g_istore D0 3 #[.val (.ref b), .val (.int (0 : Int32)), .val (.ref d), .val (.int (0 : Int32)), .val (.int (1 : Int32)), .val (.int (0 : Int32)), .unset] d_jdk_52m21_1 rfl rfl ?_
  refine g_iload D0 5 d_jdk_52m21_3 rfl rfl ?_
  refine g_iload D0 7 d_jdk_52m21_5 rfl rfl ?_
  refine g_icmpN D0 10 d_jdk_52m21_7 (by decide) rfl ?_
  refine g_aloadN D0 11 d_jdk_52m21_10 rfl rfl rfl ?_
  refine g_iloadN D0 12 d_jdk_52m21_11 rfl rfl ?_
  refine g_caload D0 13 V_b (v := (.int c0)) ⟨by decide, by decide⟩ rfl d_jdk_52m21_12 rfl ?_
  refine g_istore D0 15 #[.val (.ref b), .val (.int (0 : Int32)), .val (.ref d), .val (.int (0 : Int32)), .val (.int (1 : Int32)), .val (.int (0 : Int32)), .val (.int c0)] d_jdk_52m21_13 rfl rfl ?_
  refine g_iload D0 17 d_jdk_52m21_15 rfl rfl ?_
  refine g_sipush D0 20 (255 : Int32) d_jdk_52m21_17 rfl rfl ?_
  refine g_icmpY D0 26 d_jdk_52m21_20 (flt H0.2).2.2.2 (by decide) (by decide) ?_
  refine g_aloadN D0 27 d_jdk_52m21_26 rfl rfl rfl ?_
  refine g_iloadN D0 28 d_jdk_52m21_27 rfl rfl ?_
  refine g_iload D0 30 d_jdk_52m21_28 rfl rfl ?_
  refine g_i2b D0 31 d_jdk_52m21_30 rfl ?_
  refine g_bastore D0 32 V_d ⟨by decide, by decide⟩ 0 (by decide) (Nat.le_of_ble_eq_true rfl) (fun _ _ => trivial) d_jdk_52m21_31 rfl ?_
  intro T101 h101 W101 V101 D101
  rw [nb_b c0] at V101
  replace V101 : Arv Z h101 d kd .byte (1 : Int32) [(.int (StrChars.lo8 c0))] (.int (0 : Int32)) := V101
  have N101 := Fr.snoc D101.st (Fr.nil n0) gd
  refine g_iinc D101 35 (1 : Int32) #[.val (.ref b), .val (.int ((0 : Int32) + (1 : Int32))), .val (.ref d), .val (.int (0 : Int32)), .val (.int (1 : Int32)), .val (.int (0 : Int32)), .val (.int c0)] d_jdk_52m21_32 rfl rfl rfl rfl ?_
  rw [show ((0 : Int32) + (1 : Int32)) = (1 : Int32) from by decide]
  refine g_iinc D101 38 (1 : Int32) #[.val (.ref b), .val (.int (1 : Int32)), .val (.ref d), .val (.int ((0 : Int32) + (1 : Int32))), .val (.int (1 : Int32)), .val (.int (0 : Int32)), .val (.int c0)] d_jdk_52m21_35 rfl rfl rfl rfl ?_
  rw [show ((0 : Int32) + (1 : Int32)) = (1 : Int32) from by decide]
  refine g_iinc D101 41 (1 : Int32) #[.val (.ref b), .val (.int (1 : Int32)), .val (.ref d), .val (.int (1 : Int32)), .val (.int (1 : Int32)), .val (.int ((0 : Int32) + (1 : Int32))), .val (.int c0)] d_jdk_52m21_38 rfl rfl rfl rfl ?_
  rw [show ((0 : Int32) + (1 : Int32)) = (1 : Int32) from by decide]
  refine g_goto D101 3 d_jdk_52m21_41 (by decide) (by decide) ?_
  refine g_iload D101 5 d_jdk_52m21_3 rfl rfl ?_
  refine g_iload D101 7 d_jdk_52m21_5 rfl rfl ?_
  refine g_icmpY D101 44 d_jdk_52m21_7 (by decide) (by decide) (by decide) ?_
  refine g_iload D101 46 d_jdk_52m21_44 rfl rfl ?_
  exact r_I D101 hret hlk d_jdk_52m21_46 ⟨rfl, N101, ((Keep.refl _ [d]).wr W101 (Or.inl (List.mem_of_getElem? (i := 0) rfl))), V101⟩ (by decide) (by decide)
def Q_cC3_1 (Z : State) (b : Addr) (kc : ClassId) (c0 : Int32) (h0 : Heap) (n0 : Nat) : Option Value → Heap → List Loc → Prop := (fun v h L => ∃ t k, v = some (.ref t) ∧ h0.size ≤ t ∧ Fr n0 L ∧ Ext h0 h ∧ Arv Z h t k .byte (1 : Int32) [(.int (StrChars.lo8 c0))] (.int (0 : Int32)) ∧ Exa Z h t "[B")
set_option maxRecDepth 65536 in
set_option maxHeartbeats 40000000 in
theorem cC3_1 (l : Launch) (Z : State) (a0 : Array Value) (hw : ∀ d ∈ tables_1, d.before a0 Z = true) (ws : List Jvm.Cond) (b : Addr) (kc : ClassId) (c0 : Int32) (h0 : Heap) (n0 : Nat) (Z0 : n0 ≤ h0.size) (V_b : Arv Z h0 b kc .char (1 : Int32) [(.int c0)] (.int (0 : Int32))) (H0 : B8 c0) :
    Con l (⟨"java/lang/StringUTF16", "compress", "([CII)[B"⟩ : MethodName) jdk_52_method_16_code 6 (some (.array .byte)) ws ({ frames := 1, cells := 1, slots := 1, locals := 18 } : Room) Z #[(.ref b), (.int (0 : Int32)), (.int (1 : Int32))] h0 (Q_cC3_1 Z b kc c0 h0 n0) 1 1 := by
  refine enter (plainFor_of_name pn_0) ?_
  intro p e s m below meth c s₁ hnm hret hlk D0
  rw [ef_cC3_1 m b]
  refine g_iloadN D0 1 d_jdk_52m16_0 rfl rfl ?_
  refine g_newPE D0 3 (aty := .byte) (hw _ w_22) d_jdk_52m16_1 (by decide) (cap := 1) (by decide) (by decide) (by decide) (by decide) (ad := "[B") (by decide) (fun _ _ => trivial) rfl ?_
  intro T102 h102 a102 k102 g102 E102 V102 A102 D102
  have V102' : Arv Z h102 a102 k102 .byte (1 : Int32) [(.int (0 : Int32))] (.int (0 : Int32)) := V102.pad (pad_rep [] (.int (0 : Int32)) 1)
  refine g_astoreN D102 4 #[.val (.ref b), .val (.int (0 : Int32)), .val (.int (1 : Int32)), .val (.ref a102), .unset, .unset] d_jdk_52m16_3 rfl rfl rfl ?_
  refine g_aloadN D102 5 d_jdk_52m16_4 rfl rfl rfl ?_
  refine g_iloadN D102 6 d_jdk_52m16_5 rfl rfl ?_
  refine g_aloadN D102 7 d_jdk_52m16_6 rfl rfl rfl ?_
  refine g_iconst D102 8 (0 : Int32) d_jdk_52m16_7 rfl rfl ?_
  refine g_iloadN D102 9 d_jdk_52m16_8 rfl rfl ?_
  refine g_callS D102 12 (hw _ w_72) (hw _ w_73) (hw _ w_70) (hw _ w_74) (by decide) ((cC5_1 l Z a0 hw [] b a102 kc k102 c0 h102 n0 (Nat.le_trans Z0 E102.1) (V_b.ext E102) V102' (Nat.le_trans Z0 (Nat.le_of_eq g102.symm)) (Nat.ne_of_lt (Nat.lt_of_lt_of_le V_b.lt (Nat.le_of_eq g102.symm))) H0).back D102 0 (hw _ w_74) (hw _ w_70) (by decide) (by decide)) rfl [(.ref b), (.int (0 : Int32)), (.ref a102), (.int (0 : Int32)), (.int (1 : Int32))] rfl (lenOf pd_0 rfl) rfl (Nat.le_of_eq rfl) (by decide) (by decide) (fun _ _ _ _ => trivial) d_jdk_52m16_9 rfl ?_
  intro v103 T103 h103 L103 q103 D103
  obtain ⟨rfl, N103, K103, V103⟩ := q103
  have NF103 := Fr.app (Fr.nil n0) N103
  show Go p e below _ (T103.setTop (mkF m 12 #[.val (.ref b), .val (.int (0 : Int32)), .val (.int (1 : Int32)), .val (.ref a102), .unset, .unset] [(.int (1 : Int32))]))
  refine g_istore D103 14 #[.val (.ref b), .val (.int (0 : Int32)), .val (.int (1 : Int32)), .val (.ref a102), .val (.int (1 : Int32)), .unset] d_jdk_52m16_12 rfl rfl ?_
  refine g_iload D103 16 d_jdk_52m16_14 rfl rfl ?_
  refine g_iloadN D103 17 d_jdk_52m16_16 rfl rfl ?_
  refine g_icmpY D103 57 d_jdk_52m16_17 (by decide) (by decide) (by decide) ?_
  refine g_aloadN D103 58 d_jdk_52m16_57 rfl rfl rfl ?_
  exact r_A D103 hret rfl rfl hlk d_jdk_52m16_58 ⟨a102, k102, rfl, (Nat.le_trans (Nat.le_refl _) (Nat.le_of_eq g102.symm)), NF103, Keep.toExt (((Keep.refl _ []).ext E102).trans K103 (allS (Or.inr (Nat.le_trans (Nat.le_refl _) (Nat.le_of_eq g102.symm))) all0)), V103, (A102.keep K103)⟩ (by decide) (by decide)
set_option maxRecDepth 65536 in
set_option maxHeartbeats 40000000 in
theorem cCod_1 (l : Launch) (Z : State) (a0 : Array Value) (hw : ∀ d ∈ tables_1, d.before a0 Z = true) (ws : List Jvm.Cond) (t : Addr) (kb : ClassId) (vs : List Value) (h0 : Heap) (n0 : Nat) (Z0 : n0 ≤ h0.size) (V_t : Arv Z h0 t kb .byte (1 : Int32) vs (.int (0 : Int32))) :
    Con l (⟨"java/lang/StringUTF16", "coderFromArrayLen", "([BI)B"⟩ : MethodName) jdk_52_method_15_code 2 (some .byte) ws ({ frames := 0, cells := 0, slots := 0, locals := 0 } : Room) Z #[(.ref t), (.int (1 : Int32))] h0 (fun v h L => v = some (.int (0 : Int32)) ∧ L = [] ∧ h = h0) 0 0 := by
  refine enter (plainFor_of_name pn_0) ?_
  intro p e s m below meth c s₁ hnm hret hlk D0
  rw [ef_cCod_1 m t]
  refine g_iloadN D0 1 d_jdk_52m15_0 rfl rfl ?_
  refine g_aloadN D0 2 d_jdk_52m15_1 rfl rfl rfl ?_
  refine g_alen D0 3 V_t d_jdk_52m15_2 rfl ?_
  refine g_isub D0 4 d_jdk_52m15_3 rfl ?_
  rw [show ((1 : Int32) - (1 : Int32)) = (0 : Int32) from by decide]
  refine g_bipush D0 6 (31 : Int32) d_jdk_52m15_4 rfl rfl ?_
  refine g_iushr D0 7 d_jdk_52m15_6 rfl ?_
  rw [show (XT.ushr (0 : Int32) (31 : Int32)) = (0 : Int32) from by decide]
  refine g_i2b D0 8 d_jdk_52m15_7 rfl ?_
  rw [show ((0 : Int32).toInt8.toInt32) = (0 : Int32) from by decide]
  exact r_N D0 hret (by simp) hlk d_jdk_52m15_8 ⟨(by decide : some (Value.int (nar .byte (0 : Int32))) = some (.int 0)), rfl, rfl⟩ (by decide) (by decide)
def Q_cN4_1 (Z : State) (x b : Addr) (kc : ClassId) (zc : Int32) (c0 : Int32) (h0 : Heap) (n0 : Nat) : Option Value → Heap → List Loc → Prop := (fun v h L => v = none ∧ Fr n0 L ∧ Keep h0 h [x] ∧ LK Z h x [c0])
set_option maxRecDepth 65536 in
set_option maxHeartbeats 40000000 in
theorem cN4_1 (l : Launch) (Z : State) (a0 : Array Value) (hw : ∀ d ∈ tables_1, d.before a0 Z = true) (ws : List Jvm.Cond) (x b : Addr) (kc : ClassId) (zc : Int32) (c0 : Int32) (h0 : Heap) (n0 : Nat) (Z0 : n0 ≤ h0.size) (OLD : Old Z n0 h0) (CS : Sta Z Z.heap "java/lang/String" "COMPACT_STRINGS" "Z" (.int zc)) (hzc : ¬ zc = 0) (E_x : Exa Z h0 x "java/lang/String") (F_v : Fld Z h0 x "java/lang/String" "value" "[B" .null) (F_c : Fld Z h0 x "java/lang/String" "coder" "B" (.int (0 : Int32))) (gx : n0 ≤ x) (F_h : Fld Z h0 x "java/lang/String" "hash" "I" (.int (0 : Int32))) (F_z : Fld Z h0 x "java/lang/String" "hashIsZero" "Z" (.int (0 : Int32))) (V_b : Arv Z h0 b kc .char (1 : Int32) [(.int c0)] (.int (0 : Int32))) (H0 : B8 c0) :
    Con l (⟨"java/lang/String", "<init>", "([CIILjava/lang/Void;)V"⟩ : MethodName) jdk_42_method_149_code 6 none ws ({ frames := 2, cells := 1, slots := 1, locals := 35 } : Room) Z #[(.ref x), (.ref b), (.int (0 : Int32)), (.int (1 : Int32)), .null] h0 (Q_cN4_1 Z x b kc zc c0 h0 n0) 1 1 := by
  refine enter (plainFor_of_name pn_1) ?_
  intro p e s m below meth c s₁ hnm hret hlk D0
  rw [ef_cN4_1 m x b]
  refine g_aloadN D0 1 d_jdk_42m149_0 rfl rfl rfl ?_
  refine g_initO D0 4 (hw _ w_18) (hw _ w_19) (hw _ w_20) rfl d_jdk_42m149_1 (by decide) (W := 0) (Nat.le_of_eq rfl) (by decide) rfl ?_
  intro T104 D104
  refine g_iloadN D104 5 d_jdk_42m149_4 rfl rfl ?_
  refine g_ifY D104 27 d_jdk_42m149_5 (by decide) (by decide) (by decide) ?_
  refine g_getS D104 30 (hw _ w_56) Via.refl (CS.ext OLD.2) d_jdk_42m149_27 rfl ?_
  intro T105 D105
  refine g_ifN D105 33 d_jdk_42m149_30 (feq hzc).1 rfl ?_
  refine g_aloadN D105 34 d_jdk_42m149_33 rfl rfl rfl ?_
  refine g_iloadN D105 35 d_jdk_42m149_34 rfl rfl ?_
  refine g_iloadN D105 36 d_jdk_42m149_35 rfl rfl ?_
  refine g_callS D105 39 (hw _ w_68) (hw _ w_69) (hw _ w_70) (hw _ w_71) (by decide) ((cC3_1 l Z a0 hw [] b kc c0 h0 n0 Z0 V_b H0).back D105 0 (hw _ w_71) (hw _ w_70) (by decide) (by decide)) rfl [(.ref b), (.int (0 : Int32)), (.int (1 : Int32))] rfl (lenOf pd_1 rfl) rfl (Nat.le_of_eq rfl) (by decide) (by decide) (fun _ _ _ _ => trivial) d_jdk_42m149_36 rfl ?_
  intro v106 T106 h106 L106 q106 D106
  obtain ⟨t106, k106, rfl, g106, N106, E106, V106, A106⟩ := q106
  have NF106 := Fr.app (Fr.nil n0) N106
  show Go p e below _ (T106.setTop (mkF m 39 #[.val (.ref x), .val (.ref b), .val (.int (0 : Int32)), .val (.int (1 : Int32)), .val .null, .unset] [(.ref t106)]))
  refine g_astore D106 41 #[.val (.ref x), .val (.ref b), .val (.int (0 : Int32)), .val (.int (1 : Int32)), .val .null, .val (.ref t106)] d_jdk_42m149_39 rfl rfl rfl ?_
  refine g_aloadN D106 42 d_jdk_42m149_41 rfl rfl rfl ?_
  refine g_aload D106 44 d_jdk_42m149_42 rfl rfl rfl ?_
  refine g_iloadN D106 45 d_jdk_42m149_44 rfl rfl ?_
  refine g_callSp D106 48 (hw _ w_75) (hw _ w_76) (hw _ w_70) (hw _ w_77) (by decide) ((cCod_1 l Z a0 hw [] t106 k106 _ h106 n0 (Nat.le_trans Z0 E106.1) V106).back D106 1 (hw _ w_77) (hw _ w_70) (by decide) (by decide)) rfl [(.ref t106), (.int (1 : Int32))] rfl (lenOf pd_2 rfl) rfl (Nat.le_of_eq rfl) (by decide) (by decide) d_jdk_42m149_45 rfl ?_
  intro v107 T107 q107 D107
  subst q107
  show Go p e below _ (T107.setTop (mkF m 48 #[.val (.ref x), .val (.ref b), .val (.int (0 : Int32)), .val (.int (1 : Int32)), .val .null, .val (.ref t106)] [(.int (0 : Int32)), (.ref x)]))
  refine g_putF D107 51 (hw _ w_28) Via.refl (F_c.ext E106) (E_x.ext E106) (Or.inr ⟨(hw _ w_24), rfl, hnm⟩) (hw _ w_9) (ty := .byte) (by decide) rfl rfl (fun _ _ => trivial) d_jdk_42m149_48 rfl ?_
  intro T108 h108 W108 D108
  have N108 := Fr.snoc D108.st NF106 gx
  have F108 := (F_c.ext E106).same W108
  refine g_aloadN D108 52 d_jdk_42m149_51 rfl rfl rfl ?_
  refine g_aload D108 54 d_jdk_42m149_52 rfl rfl rfl ?_
  refine g_putF D108 57 (hw _ w_27) Via.refl ((F_v.ext E106).other W108 (Or.inr (slot_ne (Or.inr (hw _ w_23)) (Or.inr (hw _ w_24)) (by decide) (t := (.array .byte)) (t' := .byte) (by decide) (by decide)))) ((E_x.ext E106).wr W108) (Or.inr ⟨(hw _ w_23), rfl, hnm⟩) (hw _ w_9) (ty := (.array .byte)) (by decide) rfl rfl (fun _ _ => trivial) d_jdk_42m149_54 rfl ?_
  intro T109 h109 W109 D109
  have N109 := Fr.snoc D109.st N108 gx
  have F109 := ((F_v.ext E106).other W108 (Or.inr (slot_ne (Or.inr (hw _ w_23)) (Or.inr (hw _ w_24)) (by decide) (t := (.array .byte)) (t' := .byte) (by decide) (by decide)))).same W109
  exact r_V D109 hret hlk d_jdk_42m149_57 ⟨rfl, N109, ((((Keep.refl _ [x]).ext E106).wr W108 (Or.inl (List.mem_of_getElem? (i := 0) rfl))).wr W109 (Or.inl (List.mem_of_getElem? (i := 0) rfl))), ⟨t106, k106, (((E_x.ext E106).wr W108).wr W109), (F108.other W109 (Or.inr (slot_ne (Or.inr (hw _ w_24)) (Or.inr (hw _ w_23)) (by decide) (t := .byte) (t' := (.array .byte)) (by decide) (by decide)))), F109, ((V106.other W108 (Ne.symm (Nat.ne_of_lt (Nat.lt_of_lt_of_le E_x.lt g106)))).other W109 (Ne.symm (Nat.ne_of_lt (Nat.lt_of_lt_of_le E_x.lt g106)))), (b8_cons H0 b8_nil), Nat.le_of_ble_eq_true rfl, (((F_h.ext E106).other W108 (Or.inr (slot_ne (Or.inl (hw _ w_48)) (Or.inr (hw _ w_24)) (by decide) (t := .int) (t' := .byte) (by decide) (by decide)))).other W109 (Or.inr (slot_ne (Or.inl (hw _ w_48)) (Or.inr (hw _ w_23)) (by decide) (t := .int) (t' := (.array .byte)) (by decide) (by decide)))), (((F_z.ext E106).other W108 (Or.inr (slot_ne (Or.inl (hw _ w_50)) (Or.inr (hw _ w_24)) (by decide) (t := .boolean) (t' := .byte) (by decide) (by decide)))).other W109 (Or.inr (slot_ne (Or.inl (hw _ w_50)) (Or.inr (hw _ w_23)) (by decide) (t := .boolean) (t' := (.array .byte)) (by decide) (by decide)))), Or.inr ((A106.wr W108).wr W109)⟩⟩ (by decide) (by decide)
def Q_cN1_1 (Z : State) (x b : Addr) (kc : ClassId) (zc : Int32) (c0 : Int32) (h0 : Heap) (n0 : Nat) : Option Value → Heap → List Loc → Prop := (fun v h L => v = none ∧ Fr n0 L ∧ Keep h0 h [x] ∧ LK Z h x [c0])
set_option maxRecDepth 65536 in
set_option maxHeartbeats 40000000 in
theorem cN1_1 (l : Launch) (Z : State) (a0 : Array Value) (hw : ∀ d ∈ tables_1, d.before a0 Z = true) (ws : List Jvm.Cond) (x b : Addr) (kc : ClassId) (zc : Int32) (c0 : Int32) (h0 : Heap) (n0 : Nat) (Z0 : n0 ≤ h0.size) (OLD : Old Z n0 h0) (CS : Sta Z Z.heap "java/lang/String" "COMPACT_STRINGS" "Z" (.int zc)) (hzc : ¬ zc = 0) (E_x : Exa Z h0 x "java/lang/String") (F_v : Fld Z h0 x "java/lang/String" "value" "[B" .null) (F_c : Fld Z h0 x "java/lang/String" "coder" "B" (.int (0 : Int32))) (gx : n0 ≤ x) (F_h : Fld Z h0 x "java/lang/String" "hash" "I" (.int (0 : Int32))) (F_z : Fld Z h0 x "java/lang/String" "hashIsZero" "Z" (.int (0 : Int32))) (V_b : Arv Z h0 b kc .char (1 : Int32) [(.int c0)] (.int (0 : Int32))) (H0 : B8 c0) :
    Con l (⟨"java/lang/String", "<init>", "([C)V"⟩ : MethodName) jdk_42_method_3_code 2 none ws ({ frames := 3, cells := 1, slots := 1, locals := 52 } : Room) Z #[(.ref x), (.ref b)] h0 (Q_cN1_1 Z x b kc zc c0 h0 n0) 1 1 := by
  refine enter (plainFor_of_name pn_1) ?_
  intro p e s m below meth c s₁ hnm hret hlk D0
  rw [ef_cN1_1 m x b]
  refine g_aloadN D0 1 d_jdk_42m3_0 rfl rfl rfl ?_
  refine g_aloadN D0 2 d_jdk_42m3_1 rfl rfl rfl ?_
  refine g_iconst D0 3 (0 : Int32) d_jdk_42m3_2 rfl rfl ?_
  refine g_aloadN D0 4 d_jdk_42m3_3 rfl rfl rfl ?_
  refine g_alen D0 5 V_b d_jdk_42m3_4 rfl ?_
  refine g_aconst D0 6 d_jdk_42m3_5 rfl ?_
  refine g_callN D0 9 rfl (hw _ w_14) (hw _ w_15) (hw _ w_17) (by decide) ((cN4_1 l Z a0 hw [] x b kc zc c0 h0 n0 Z0 OLD CS hzc E_x F_v F_c gx F_h F_z V_b H0).back D0 0 (hw _ w_17) (hw _ w_10) (by decide) (by decide)) rfl [(.ref b), (.int (0 : Int32)), (.int (1 : Int32)), .null] rfl (lenOf pd_3 rfl) rfl (Nat.le_of_eq rfl) (by decide) (by decide) (fun _ _ _ _ => trivial) d_jdk_42m3_6 rfl ?_
  intro v110 T110 h110 L110 q110 D110
  obtain ⟨rfl, X1⟩ := q110
  rw [List.nil_append] at D110
  show Go p e below _ (T110.setTop (mkF m 9 #[.val (.ref x), .val (.ref b)] []))
  exact r_V D110 hret hlk d_jdk_42m3_9 ⟨rfl, X1⟩ (by decide) (by decide)
def Q_cC5_2 (Z : State) (b d : Addr) (kc kd : ClassId) (c0 c1 : Int32) (h0 : Heap) (n0 : Nat) : Option Value → Heap → List Loc → Prop := (fun v h L => v = some (.int (2 : Int32)) ∧ Fr n0 L ∧ Keep h0 h [d] ∧ Arv Z h d kd .byte (2 : Int32) [(.int (StrChars.lo8 c0)), (.int (StrChars.lo8 c1))] (.int (0 : Int32)))
set_option maxRecDepth 65536 in
set_option maxHeartbeats 40000000 in
theorem cC5_2 (l : Launch) (Z : State) (a0 : Array Value) (hw : ∀ d ∈ tables_1, d.before a0 Z = true) (ws : List Jvm.Cond) (b d : Addr) (kc kd : ClassId) (c0 c1 : Int32) (h0 : Heap) (n0 : Nat) (Z0 : n0 ≤ h0.size) (V_b : Arv Z h0 b kc .char (2 : Int32) [(.int c0), (.int c1)] (.int (0 : Int32))) (V_d : Arv Z h0 d kd .byte (2 : Int32) [(.int (0 : Int32)), (.int (0 : Int32))] (.int (0 : Int32))) (gd : n0 ≤ d) (nbd : b ≠ d) (H0 : B8 c0) (H1 : B8 c1) :
    Con l (⟨"java/lang/StringUTF16", "compress", "([CI[BII)I"⟩ : MethodName) jdk_52_method_21_code 7 (some .int) ws ({ frames := 0, cells := 0, slots := 0, locals := 0 } : Room) Z #[(.ref b), (.int (0 : Int32)), (.ref d), (.int (0 : Int32)), (.int (2 : Int32))] h0 (Q_cC5_2 Z b d kc kd c0 c1 h0 n0) 0 0 := by
  refine enter (plainFor_of_name pn_0) ?_
  intro p e s m below meth c s₁ hnm hret hlk D0
  rw [ef_cC5_2 m b d]
  refine g_iconst D0 1 (0 : Int32) d_jdk_52m21_0 rfl rfl ?_
  refine g_istore D0 3 #[.val (.ref b), .val (.int (0 : Int32)), .val (.ref d), .val (.int (0 : Int32)), .val (.int (2 : Int32)), .val (.int (0 : Int32)), .unset] d_jdk_52m21_1 rfl rfl ?_
  refine g_iload D0 5 d_jdk_52m21_3 rfl rfl ?_
  refine g_iload D0 7 d_jdk_52m21_5 rfl rfl ?_
  refine g_icmpN D0 10 d_jdk_52m21_7 (by decide) rfl ?_
  refine g_aloadN D0 11 d_jdk_52m21_10 rfl rfl rfl ?_
  refine g_iloadN D0 12 d_jdk_52m21_11 rfl rfl ?_
  refine g_caload D0 13 V_b (v := (.int c0)) ⟨by decide, by decide⟩ rfl d_jdk_52m21_12 rfl ?_
  refine g_istore D0 15 #[.val (.ref b), .val (.int (0 : Int32)), .val (.ref d), .val (.int (0 : Int32)), .val (.int (2 : Int32)), .val (.int (0 : Int32)), .val (.int c0)] d_jdk_52m21_13 rfl rfl ?_
  refine g_iload D0 17 d_jdk_52m21_15 rfl rfl ?_
  refine g_sipush D0 20 (255 : Int32) d_jdk_52m21_17 rfl rfl ?_
  refine g_icmpY D0 26 d_jdk_52m21_20 (flt H0.2).2.2.2 (by decide) (by decide) ?_
  refine g_aloadN D0 27 d_jdk_52m21_26 rfl rfl rfl ?_
  refine g_iloadN D0 28 d_jdk_52m21_27 rfl rfl ?_
  refine g_iload D0 30 d_jdk_52m21_28 rfl rfl ?_
  refine g_i2b D0 31 d_jdk_52m21_30 rfl ?_
  refine g_bastore D0 32 V_d ⟨by decide, by decide⟩ 0 (by decide) (Nat.le_of_ble_eq_true rfl) (fun _ _ => trivial) d_jdk_52m21_31 rfl ?_
  intro T111 h111 W111 V111 D111
  rw [nb_b c0] at V111
  replace V111 : Arv Z h111 d kd .byte (2 : Int32) [(.int (StrChars.lo8 c0)), (.int (0 : Int32))] (.int (0 : Int32)) := V111
  have N111 := Fr.snoc D111.st (Fr.nil n0) gd
  refine g_iinc D111 35 (1 : Int32) #[.val (.ref b), .val (.int ((0 : Int32) + (1 : Int32))), .val (.ref d), .val (.int (0 : Int32)), .val (.int (2 : Int32)), .val (.int (0 : Int32)), .val (.int c0)] d_jdk_52m21_32 rfl rfl rfl rfl ?_
  rw [show ((0 : Int32) + (1 : Int32)) = (1 : Int32) from by decide]
  refine g_iinc D111 38 (1 : Int32) #[.val (.ref b), .val (.int (1 : Int32)), .val (.ref d), .val (.int ((0 : Int32) + (1 : Int32))), .val (.int (2 : Int32)), .val (.int (0 : Int32)), .val (.int c0)] d_jdk_52m21_35 rfl rfl rfl rfl ?_
  rw [show ((0 : Int32) + (1 : Int32)) = (1 : Int32) from by decide]
  refine g_iinc D111 41 (1 : Int32) #[.val (.ref b), .val (.int (1 : Int32)), .val (.ref d), .val (.int (1 : Int32)), .val (.int (2 : Int32)), .val (.int ((0 : Int32) + (1 : Int32))), .val (.int c0)] d_jdk_52m21_38 rfl rfl rfl rfl ?_
  rw [show ((0 : Int32) + (1 : Int32)) = (1 : Int32) from by decide]
  refine g_goto D111 3 d_jdk_52m21_41 (by decide) (by decide) ?_
  refine g_iload D111 5 d_jdk_52m21_3 rfl rfl ?_
  refine g_iload D111 7 d_jdk_52m21_5 rfl rfl ?_
  refine g_icmpN D111 10 d_jdk_52m21_7 (by decide) rfl ?_
  refine g_aloadN D111 11 d_jdk_52m21_10 rfl rfl rfl ?_
  refine g_iloadN D111 12 d_jdk_52m21_11 rfl rfl ?_
  refine g_caload D111 13 (V_b.other W111 nbd) (v := (.int c1)) ⟨by decide, by decide⟩ rfl d_jdk_52m21_12 rfl ?_
  refine g_istore D111 15 #[.val (.ref b), .val (.int (1 : Int32)), .val (.ref d), .val (.int (1 : Int32)), .val (.int (2 : Int32)), .val (.int (1 : Int32)), .val (.int c1)] d_jdk_52m21_13 rfl rfl ?_
  refine g_iload D111 17 d_jdk_52m21_15 rfl rfl ?_
  refine g_sipush D111 20 (255 : Int32) d_jdk_52m21_17 rfl rfl ?_
  refine g_icmpY D111 26 d_jdk_52m21_20 (flt H1.2).2.2.2 (by decide) (by decide) ?_
  refine g_aloadN D111 27 d_jdk_52m21_26 rfl rfl rfl ?_
  refine g_iloadN D111 28 d_jdk_52m21_27 rfl rfl ?_
  refine g_iload D111 30 d_jdk_52m21_28 rfl rfl ?_
  refine g_i2b D111 31 d_jdk_52m21_30 rfl ?_
  refine g_bastore D111 32 V111 ⟨by decide, by decide⟩ 1 (by decide) (Nat.le_of_ble_eq_true rfl) (fun _ _ => trivial) d_jdk_52m21_31 rfl ?_
  intro T112 h112 W112 V112 D112
  rw [nb_b c1] at V112
  replace V112 : Arv Z h112 d kd .byte (2 : Int32) [(.int (StrChars.lo8 c0)), (.int (StrChars.lo8 c1))] (.int (0 : Int32)) := V112
  have N112 := Fr.snoc D112.st N111 gd
  refine g_iinc D112 35 (1 : Int32) #[.val (.ref b), .val (.int ((1 : Int32) + (1 : Int32))), .val (.ref d), .val (.int (1 : Int32)), .val (.int (2 : Int32)), .val (.int (1 : Int32)), .val (.int c1)] d_jdk_52m21_32 rfl rfl rfl rfl ?_
  rw [show ((1 : Int32) + (1 : Int32)) = (2 : Int32) from by decide]
  refine g_iinc D112 38 (1 : Int32) #[.val (.ref b), .val (.int (2 : Int32)), .val (.ref d), .val (.int ((1 : Int32) + (1 : Int32))), .val (.int (2 : Int32)), .val (.int (1 : Int32)), .val (.int c1)] d_jdk_52m21_35 rfl rfl rfl rfl ?_
  rw [show ((1 : Int32) + (1 : Int32)) = (2 : Int32) from by decide]
  refine g_iinc D112 41 (1 : Int32) #[.val (.ref b), .val (.int (2 : Int32)), .val (.ref d), .val (.int (2 : Int32)), .val (.int (2 : Int32)), .val (.int ((1 : Int32) + (1 : Int32))), .val (.int c1)] d_jdk_52m21_38 rfl rfl rfl rfl ?_
  rw [show ((1 : Int32) + (1 : Int32)) = (2 : Int32) from by decide]
  refine g_goto D112 3 d_jdk_52m21_41 (by decide) (by decide) ?_
  refine g_iload D112 5 d_jdk_52m21_3 rfl rfl ?_
  refine g_iload D112 7 d_jdk_52m21_5 rfl rfl ?_
  refine g_icmpY D112 44 d_jdk_52m21_7 (by decide) (by decide) (by decide) ?_
  refine g_iload D112 46 d_jdk_52m21_44 rfl rfl ?_
  exact r_I D112 hret hlk d_jdk_52m21_46 ⟨rfl, N112, (((Keep.refl _ [d]).wr W111 (Or.inl (List.mem_of_getElem? (i := 0) rfl))).wr W112 (Or.inl (List.mem_of_getElem? (i := 0) rfl))), V112⟩ (by decide) (by decide)
def Q_cC3_2 (Z : State) (b : Addr) (kc : ClassId) (c0 c1 : Int32) (h0 : Heap) (n0 : Nat) : Option Value → Heap → List Loc → Prop := (fun v h L => ∃ t k, v = some (.ref t) ∧ h0.size ≤ t ∧ Fr n0 L ∧ Ext h0 h ∧ Arv Z h t k .byte (2 : Int32) [(.int (StrChars.lo8 c0)), (.int (StrChars.lo8 c1))] (.int (0 : Int32)) ∧ Exa Z h t "[B")
set_option maxRecDepth 65536 in
set_option maxHeartbeats 40000000 in
theorem cC3_2 (l : Launch) (Z : State) (a0 : Array Value) (hw : ∀ d ∈ tables_1, d.before a0 Z = true) (ws : List Jvm.Cond) (b : Addr) (kc : ClassId) (c0 c1 : Int32) (h0 : Heap) (n0 : Nat) (Z0 : n0 ≤ h0.size) (V_b : Arv Z h0 b kc .char (2 : Int32) [(.int c0), (.int c1)] (.int (0 : Int32))) (H0 : B8 c0) (H1 : B8 c1) :
    Con l (⟨"java/lang/StringUTF16", "compress", "([CII)[B"⟩ : MethodName) jdk_52_method_16_code 6 (some (.array .byte)) ws ({ frames := 1, cells := 1, slots := 2, locals := 18 } : Room) Z #[(.ref b), (.int (0 : Int32)), (.int (2 : Int32))] h0 (Q_cC3_2 Z b kc c0 c1 h0 n0) 1 2 := by
  refine enter (plainFor_of_name pn_0) ?_
  intro p e s m below meth c s₁ hnm hret hlk D0
  rw [ef_cC3_2 m b]
  refine g_iloadN D0 1 d_jdk_52m16_0 rfl rfl ?_
  refine g_newPE D0 3 (aty := .byte) (hw _ w_22) d_jdk_52m16_1 (by decide) (cap := 2) (by decide) (by decide) (by decide) (by decide) (ad := "[B") (by decide) (fun _ _ => trivial) rfl ?_
  intro T113 h113 a113 k113 g113 E113 V113 A113 D113
  have V113' : Arv Z h113 a113 k113 .byte (2 : Int32) [(.int (0 : Int32)), (.int (0 : Int32))] (.int (0 : Int32)) := V113.pad (pad_rep [] (.int (0 : Int32)) 2)
  refine g_astoreN D113 4 #[.val (.ref b), .val (.int (0 : Int32)), .val (.int (2 : Int32)), .val (.ref a113), .unset, .unset] d_jdk_52m16_3 rfl rfl rfl ?_
  refine g_aloadN D113 5 d_jdk_52m16_4 rfl rfl rfl ?_
  refine g_iloadN D113 6 d_jdk_52m16_5 rfl rfl ?_
  refine g_aloadN D113 7 d_jdk_52m16_6 rfl rfl rfl ?_
  refine g_iconst D113 8 (0 : Int32) d_jdk_52m16_7 rfl rfl ?_
  refine g_iloadN D113 9 d_jdk_52m16_8 rfl rfl ?_
  refine g_callS D113 12 (hw _ w_72) (hw _ w_73) (hw _ w_70) (hw _ w_74) (by decide) ((cC5_2 l Z a0 hw [] b a113 kc k113 c0 c1 h113 n0 (Nat.le_trans Z0 E113.1) (V_b.ext E113) V113' (Nat.le_trans Z0 (Nat.le_of_eq g113.symm)) (Nat.ne_of_lt (Nat.lt_of_lt_of_le V_b.lt (Nat.le_of_eq g113.symm))) H0 H1).back D113 0 (hw _ w_74) (hw _ w_70) (by decide) (by decide)) rfl [(.ref b), (.int (0 : Int32)), (.ref a113), (.int (0 : Int32)), (.int (2 : Int32))] rfl (lenOf pd_0 rfl) rfl (Nat.le_of_eq rfl) (by decide) (by decide) (fun _ _ _ _ => trivial) d_jdk_52m16_9 rfl ?_
  intro v114 T114 h114 L114 q114 D114
  obtain ⟨rfl, N114, K114, V114⟩ := q114
  have NF114 := Fr.app (Fr.nil n0) N114
  show Go p e below _ (T114.setTop (mkF m 12 #[.val (.ref b), .val (.int (0 : Int32)), .val (.int (2 : Int32)), .val (.ref a113), .unset, .unset] [(.int (2 : Int32))]))
  refine g_istore D114 14 #[.val (.ref b), .val (.int (0 : Int32)), .val (.int (2 : Int32)), .val (.ref a113), .val (.int (2 : Int32)), .unset] d_jdk_52m16_12 rfl rfl ?_
  refine g_iload D114 16 d_jdk_52m16_14 rfl rfl ?_
  refine g_iloadN D114 17 d_jdk_52m16_16 rfl rfl ?_
  refine g_icmpY D114 57 d_jdk_52m16_17 (by decide) (by decide) (by decide) ?_
  refine g_aloadN D114 58 d_jdk_52m16_57 rfl rfl rfl ?_
  exact r_A D114 hret rfl rfl hlk d_jdk_52m16_58 ⟨a113, k113, rfl, (Nat.le_trans (Nat.le_refl _) (Nat.le_of_eq g113.symm)), NF114, Keep.toExt (((Keep.refl _ []).ext E113).trans K114 (allS (Or.inr (Nat.le_trans (Nat.le_refl _) (Nat.le_of_eq g113.symm))) all0)), V114, (A113.keep K114)⟩ (by decide) (by decide)
set_option maxRecDepth 65536 in
set_option maxHeartbeats 40000000 in
theorem cCod_2 (l : Launch) (Z : State) (a0 : Array Value) (hw : ∀ d ∈ tables_1, d.before a0 Z = true) (ws : List Jvm.Cond) (t : Addr) (kb : ClassId) (vs : List Value) (h0 : Heap) (n0 : Nat) (Z0 : n0 ≤ h0.size) (V_t : Arv Z h0 t kb .byte (2 : Int32) vs (.int (0 : Int32))) :
    Con l (⟨"java/lang/StringUTF16", "coderFromArrayLen", "([BI)B"⟩ : MethodName) jdk_52_method_15_code 2 (some .byte) ws ({ frames := 0, cells := 0, slots := 0, locals := 0 } : Room) Z #[(.ref t), (.int (2 : Int32))] h0 (fun v h L => v = some (.int (0 : Int32)) ∧ L = [] ∧ h = h0) 0 0 := by
  refine enter (plainFor_of_name pn_0) ?_
  intro p e s m below meth c s₁ hnm hret hlk D0
  rw [ef_cCod_2 m t]
  refine g_iloadN D0 1 d_jdk_52m15_0 rfl rfl ?_
  refine g_aloadN D0 2 d_jdk_52m15_1 rfl rfl rfl ?_
  refine g_alen D0 3 V_t d_jdk_52m15_2 rfl ?_
  refine g_isub D0 4 d_jdk_52m15_3 rfl ?_
  rw [show ((2 : Int32) - (2 : Int32)) = (0 : Int32) from by decide]
  refine g_bipush D0 6 (31 : Int32) d_jdk_52m15_4 rfl rfl ?_
  refine g_iushr D0 7 d_jdk_52m15_6 rfl ?_
  rw [show (XT.ushr (0 : Int32) (31 : Int32)) = (0 : Int32) from by decide]
  refine g_i2b D0 8 d_jdk_52m15_7 rfl ?_
  rw [show ((0 : Int32).toInt8.toInt32) = (0 : Int32) from by decide]
  exact r_N D0 hret (by simp) hlk d_jdk_52m15_8 ⟨(by decide : some (Value.int (nar .byte (0 : Int32))) = some (.int 0)), rfl, rfl⟩ (by decide) (by decide)
def Q_cN4_2 (Z : State) (x b : Addr) (kc : ClassId) (zc : Int32) (c0 c1 : Int32) (h0 : Heap) (n0 : Nat) : Option Value → Heap → List Loc → Prop := (fun v h L => v = none ∧ Fr n0 L ∧ Keep h0 h [x] ∧ LK Z h x [c0, c1])
set_option maxRecDepth 65536 in
set_option maxHeartbeats 40000000 in
theorem cN4_2 (l : Launch) (Z : State) (a0 : Array Value) (hw : ∀ d ∈ tables_1, d.before a0 Z = true) (ws : List Jvm.Cond) (x b : Addr) (kc : ClassId) (zc : Int32) (c0 c1 : Int32) (h0 : Heap) (n0 : Nat) (Z0 : n0 ≤ h0.size) (OLD : Old Z n0 h0) (CS : Sta Z Z.heap "java/lang/String" "COMPACT_STRINGS" "Z" (.int zc)) (hzc : ¬ zc = 0) (E_x : Exa Z h0 x "java/lang/String") (F_v : Fld Z h0 x "java/lang/String" "value" "[B" .null) (F_c : Fld Z h0 x "java/lang/String" "coder" "B" (.int (0 : Int32))) (gx : n0 ≤ x) (F_h : Fld Z h0 x "java/lang/String" "hash" "I" (.int (0 : Int32))) (F_z : Fld Z h0 x "java/lang/String" "hashIsZero" "Z" (.int (0 : Int32))) (V_b : Arv Z h0 b kc .char (2 : Int32) [(.int c0), (.int c1)] (.int (0 : Int32))) (H0 : B8 c0) (H1 : B8 c1) :
    Con l (⟨"java/lang/String", "<init>", "([CIILjava/lang/Void;)V"⟩ : MethodName) jdk_42_method_149_code 6 none ws ({ frames := 2, cells := 1, slots := 2, locals := 35 } : Room) Z #[(.ref x), (.ref b), (.int (0 : Int32)), (.int (2 : Int32)), .null] h0 (Q_cN4_2 Z x b kc zc c0 c1 h0 n0) 1 2 := by
  refine enter (plainFor_of_name pn_1) ?_
  intro p e s m below meth c s₁ hnm hret hlk D0
  rw [ef_cN4_2 m x b]
  refine g_aloadN D0 1 d_jdk_42m149_0 rfl rfl rfl ?_
  refine g_initO D0 4 (hw _ w_18) (hw _ w_19) (hw _ w_20) rfl d_jdk_42m149_1 (by decide) (W := 0) (Nat.le_of_eq rfl) (by decide) rfl ?_
  intro T115 D115
  refine g_iloadN D115 5 d_jdk_42m149_4 rfl rfl ?_
  refine g_ifY D115 27 d_jdk_42m149_5 (by decide) (by decide) (by decide) ?_
  refine g_getS D115 30 (hw _ w_56) Via.refl (CS.ext OLD.2) d_jdk_42m149_27 rfl ?_
  intro T116 D116
  refine g_ifN D116 33 d_jdk_42m149_30 (feq hzc).1 rfl ?_
  refine g_aloadN D116 34 d_jdk_42m149_33 rfl rfl rfl ?_
  refine g_iloadN D116 35 d_jdk_42m149_34 rfl rfl ?_
  refine g_iloadN D116 36 d_jdk_42m149_35 rfl rfl ?_
  refine g_callS D116 39 (hw _ w_68) (hw _ w_69) (hw _ w_70) (hw _ w_71) (by decide) ((cC3_2 l Z a0 hw [] b kc c0 c1 h0 n0 Z0 V_b H0 H1).back D116 0 (hw _ w_71) (hw _ w_70) (by decide) (by decide)) rfl [(.ref b), (.int (0 : Int32)), (.int (2 : Int32))] rfl (lenOf pd_1 rfl) rfl (Nat.le_of_eq rfl) (by decide) (by decide) (fun _ _ _ _ => trivial) d_jdk_42m149_36 rfl ?_
  intro v117 T117 h117 L117 q117 D117
  obtain ⟨t117, k117, rfl, g117, N117, E117, V117, A117⟩ := q117
  have NF117 := Fr.app (Fr.nil n0) N117
  show Go p e below _ (T117.setTop (mkF m 39 #[.val (.ref x), .val (.ref b), .val (.int (0 : Int32)), .val (.int (2 : Int32)), .val .null, .unset] [(.ref t117)]))
  refine g_astore D117 41 #[.val (.ref x), .val (.ref b), .val (.int (0 : Int32)), .val (.int (2 : Int32)), .val .null, .val (.ref t117)] d_jdk_42m149_39 rfl rfl rfl ?_
  refine g_aloadN D117 42 d_jdk_42m149_41 rfl rfl rfl ?_
  refine g_aload D117 44 d_jdk_42m149_42 rfl rfl rfl ?_
  refine g_iloadN D117 45 d_jdk_42m149_44 rfl rfl ?_
  refine g_callSp D117 48 (hw _ w_75) (hw _ w_76) (hw _ w_70) (hw _ w_77) (by decide) ((cCod_2 l Z a0 hw [] t117 k117 _ h117 n0 (Nat.le_trans Z0 E117.1) V117).back D117 1 (hw _ w_77) (hw _ w_70) (by decide) (by decide)) rfl [(.ref t117), (.int (2 : Int32))] rfl (lenOf pd_2 rfl) rfl (Nat.le_of_eq rfl) (by decide) (by decide) d_jdk_42m149_45 rfl ?_
  intro v118 T118 q118 D118
  subst q118
  show Go p e below _ (T118.setTop (mkF m 48 #[.val (.ref x), .val (.ref b), .val (.int (0 : Int32)), .val (.int (2 : Int32)), .val .null, .val (.ref t117)] [(.int (0 : Int32)), (.ref x)]))
  refine g_putF D118 51 (hw _ w_28) Via.refl (F_c.ext E117) (E_x.ext E117) (Or.inr ⟨(hw _ w_24), rfl, hnm⟩) (hw _ w_9) (ty := .byte) (by decide) rfl rfl (fun _ _ => trivial) d_jdk_42m149_48 rfl ?_
  intro T119 h119 W119 D119
  have N119 := Fr.snoc D119.st NF117 gx
  have F119 := (F_c.ext E117).same W119
  refine g_aloadN D119 52 d_jdk_42m149_51 rfl rfl rfl ?_
  refine g_aload D119 54 d_jdk_42m149_52 rfl rfl rfl ?_
  refine g_putF D119 57 (hw _ w_27) Via.refl ((F_v.ext E117).other W119 (Or.inr (slot_ne (Or.inr (hw _ w_23)) (Or.inr (hw _ w_24)) (by decide) (t := (.array .byte)) (t' := .byte) (by decide) (by decide)))) ((E_x.ext E117).wr W119) (Or.inr ⟨(hw _ w_23), rfl, hnm⟩) (hw _ w_9) (ty := (.array .byte)) (by decide) rfl rfl (fun _ _ => trivial) d_jdk_42m149_54 rfl ?_
  intro T120 h120 W120 D120
  have N120 := Fr.snoc D120.st N119 gx
  have F120 := ((F_v.ext E117).other W119 (Or.inr (slot_ne (Or.inr (hw _ w_23)) (Or.inr (hw _ w_24)) (by decide) (t := (.array .byte)) (t' := .byte) (by decide) (by decide)))).same W120
  exact r_V D120 hret hlk d_jdk_42m149_57 ⟨rfl, N120, ((((Keep.refl _ [x]).ext E117).wr W119 (Or.inl (List.mem_of_getElem? (i := 0) rfl))).wr W120 (Or.inl (List.mem_of_getElem? (i := 0) rfl))), ⟨t117, k117, (((E_x.ext E117).wr W119).wr W120), (F119.other W120 (Or.inr (slot_ne (Or.inr (hw _ w_24)) (Or.inr (hw _ w_23)) (by decide) (t := .byte) (t' := (.array .byte)) (by decide) (by decide)))), F120, ((V117.other W119 (Ne.symm (Nat.ne_of_lt (Nat.lt_of_lt_of_le E_x.lt g117)))).other W120 (Ne.symm (Nat.ne_of_lt (Nat.lt_of_lt_of_le E_x.lt g117)))), (b8_cons H0 (b8_cons H1 b8_nil)), Nat.le_of_ble_eq_true rfl, (((F_h.ext E117).other W119 (Or.inr (slot_ne (Or.inl (hw _ w_48)) (Or.inr (hw _ w_24)) (by decide) (t := .int) (t' := .byte) (by decide) (by decide)))).other W120 (Or.inr (slot_ne (Or.inl (hw _ w_48)) (Or.inr (hw _ w_23)) (by decide) (t := .int) (t' := (.array .byte)) (by decide) (by decide)))), (((F_z.ext E117).other W119 (Or.inr (slot_ne (Or.inl (hw _ w_50)) (Or.inr (hw _ w_24)) (by decide) (t := .boolean) (t' := .byte) (by decide) (by decide)))).other W120 (Or.inr (slot_ne (Or.inl (hw _ w_50)) (Or.inr (hw _ w_23)) (by decide) (t := .boolean) (t' := (.array .byte)) (by decide) (by decide)))), Or.inr ((A117.wr W119).wr W120)⟩⟩ (by decide) (by decide)
def Q_cN1_2 (Z : State) (x b : Addr) (kc : ClassId) (zc : Int32) (c0 c1 : Int32) (h0 : Heap) (n0 : Nat) : Option Value → Heap → List Loc → Prop := (fun v h L => v = none ∧ Fr n0 L ∧ Keep h0 h [x] ∧ LK Z h x [c0, c1])
set_option maxRecDepth 65536 in
set_option maxHeartbeats 40000000 in
theorem cN1_2 (l : Launch) (Z : State) (a0 : Array Value) (hw : ∀ d ∈ tables_1, d.before a0 Z = true) (ws : List Jvm.Cond) (x b : Addr) (kc : ClassId) (zc : Int32) (c0 c1 : Int32) (h0 : Heap) (n0 : Nat) (Z0 : n0 ≤ h0.size) (OLD : Old Z n0 h0) (CS : Sta Z Z.heap "java/lang/String" "COMPACT_STRINGS" "Z" (.int zc)) (hzc : ¬ zc = 0) (E_x : Exa Z h0 x "java/lang/String") (F_v : Fld Z h0 x "java/lang/String" "value" "[B" .null) (F_c : Fld Z h0 x "java/lang/String" "coder" "B" (.int (0 : Int32))) (gx : n0 ≤ x) (F_h : Fld Z h0 x "java/lang/String" "hash" "I" (.int (0 : Int32))) (F_z : Fld Z h0 x "java/lang/String" "hashIsZero" "Z" (.int (0 : Int32))) (V_b : Arv Z h0 b kc .char (2 : Int32) [(.int c0), (.int c1)] (.int (0 : Int32))) (H0 : B8 c0) (H1 : B8 c1) :
    Con l (⟨"java/lang/String", "<init>", "([C)V"⟩ : MethodName) jdk_42_method_3_code 2 none ws ({ frames := 3, cells := 1, slots := 2, locals := 52 } : Room) Z #[(.ref x), (.ref b)] h0 (Q_cN1_2 Z x b kc zc c0 c1 h0 n0) 1 2 := by
  refine enter (plainFor_of_name pn_1) ?_
  intro p e s m below meth c s₁ hnm hret hlk D0
  rw [ef_cN1_2 m x b]
  refine g_aloadN D0 1 d_jdk_42m3_0 rfl rfl rfl ?_
  refine g_aloadN D0 2 d_jdk_42m3_1 rfl rfl rfl ?_
  refine g_iconst D0 3 (0 : Int32) d_jdk_42m3_2 rfl rfl ?_
  refine g_aloadN D0 4 d_jdk_42m3_3 rfl rfl rfl ?_
  refine g_alen D0 5 V_b d_jdk_42m3_4 rfl ?_
  refine g_aconst D0 6 d_jdk_42m3_5 rfl ?_
  refine g_callN D0 9 rfl (hw _ w_14) (hw _ w_15) (hw _ w_17) (by decide) ((cN4_2 l Z a0 hw [] x b kc zc c0 c1 h0 n0 Z0 OLD CS hzc E_x F_v F_c gx F_h F_z V_b H0 H1).back D0 0 (hw _ w_17) (hw _ w_10) (by decide) (by decide)) rfl [(.ref b), (.int (0 : Int32)), (.int (2 : Int32)), .null] rfl (lenOf pd_3 rfl) rfl (Nat.le_of_eq rfl) (by decide) (by decide) (fun _ _ _ _ => trivial) d_jdk_42m3_6 rfl ?_
  intro v121 T121 h121 L121 q121 D121
  obtain ⟨rfl, X1⟩ := q121
  rw [List.nil_append] at D121
  show Go p e below _ (T121.setTop (mkF m 9 #[.val (.ref x), .val (.ref b)] []))
  exact r_V D121 hret hlk d_jdk_42m3_9 ⟨rfl, X1⟩ (by decide) (by decide)
def Q_cC5_3 (Z : State) (b d : Addr) (kc kd : ClassId) (c0 c1 c2 : Int32) (h0 : Heap) (n0 : Nat) : Option Value → Heap → List Loc → Prop := (fun v h L => v = some (.int (3 : Int32)) ∧ Fr n0 L ∧ Keep h0 h [d] ∧ Arv Z h d kd .byte (3 : Int32) [(.int (StrChars.lo8 c0)), (.int (StrChars.lo8 c1)), (.int (StrChars.lo8 c2))] (.int (0 : Int32)))
set_option maxRecDepth 65536 in
set_option maxHeartbeats 40000000 in
theorem cC5_3 (l : Launch) (Z : State) (a0 : Array Value) (hw : ∀ d ∈ tables_1, d.before a0 Z = true) (ws : List Jvm.Cond) (b d : Addr) (kc kd : ClassId) (c0 c1 c2 : Int32) (h0 : Heap) (n0 : Nat) (Z0 : n0 ≤ h0.size) (V_b : Arv Z h0 b kc .char (3 : Int32) [(.int c0), (.int c1), (.int c2)] (.int (0 : Int32))) (V_d : Arv Z h0 d kd .byte (3 : Int32) [(.int (0 : Int32)), (.int (0 : Int32)), (.int (0 : Int32))] (.int (0 : Int32))) (gd : n0 ≤ d) (nbd : b ≠ d) (H0 : B8 c0) (H1 : B8 c1) (H2 : B8 c2) :
    Con l (⟨"java/lang/StringUTF16", "compress", "([CI[BII)I"⟩ : MethodName) jdk_52_method_21_code 7 (some .int) ws ({ frames := 0, cells := 0, slots := 0, locals := 0 } : Room) Z #[(.ref b), (.int (0 : Int32)), (.ref d), (.int (0 : Int32)), (.int (3 : Int32))] h0 (Q_cC5_3 Z b d kc kd c0 c1 c2 h0 n0) 0 0 := by
  refine enter (plainFor_of_name pn_0) ?_
  intro p e s m below meth c s₁ hnm hret hlk D0
  rw [ef_cC5_3 m b d]
  refine g_iconst D0 1 (0 : Int32) d_jdk_52m21_0 rfl rfl ?_
  refine g_istore D0 3 #[.val (.ref b), .val (.int (0 : Int32)), .val (.ref d), .val (.int (0 : Int32)), .val (.int (3 : Int32)), .val (.int (0 : Int32)), .unset] d_jdk_52m21_1 rfl rfl ?_
  refine g_iload D0 5 d_jdk_52m21_3 rfl rfl ?_
  refine g_iload D0 7 d_jdk_52m21_5 rfl rfl ?_
  refine g_icmpN D0 10 d_jdk_52m21_7 (by decide) rfl ?_
  refine g_aloadN D0 11 d_jdk_52m21_10 rfl rfl rfl ?_
  refine g_iloadN D0 12 d_jdk_52m21_11 rfl rfl ?_
  refine g_caload D0 13 V_b (v := (.int c0)) ⟨by decide, by decide⟩ rfl d_jdk_52m21_12 rfl ?_
  refine g_istore D0 15 #[.val (.ref b), .val (.int (0 : Int32)), .val (.ref d), .val (.int (0 : Int32)), .val (.int (3 : Int32)), .val (.int (0 : Int32)), .val (.int c0)] d_jdk_52m21_13 rfl rfl ?_
  refine g_iload D0 17 d_jdk_52m21_15 rfl rfl ?_
  refine g_sipush D0 20 (255 : Int32) d_jdk_52m21_17 rfl rfl ?_
  refine g_icmpY D0 26 d_jdk_52m21_20 (flt H0.2).2.2.2 (by decide) (by decide) ?_
  refine g_aloadN D0 27 d_jdk_52m21_26 rfl rfl rfl ?_
  refine g_iloadN D0 28 d_jdk_52m21_27 rfl rfl ?_
  refine g_iload D0 30 d_jdk_52m21_28 rfl rfl ?_
  refine g_i2b D0 31 d_jdk_52m21_30 rfl ?_
  refine g_bastore D0 32 V_d ⟨by decide, by decide⟩ 0 (by decide) (Nat.le_of_ble_eq_true rfl) (fun _ _ => trivial) d_jdk_52m21_31 rfl ?_
  intro T122 h122 W122 V122 D122
  rw [nb_b c0] at V122
  replace V122 : Arv Z h122 d kd .byte (3 : Int32) [(.int (StrChars.lo8 c0)), (.int (0 : Int32)), (.int (0 : Int32))] (.int (0 : Int32)) := V122
  have N122 := Fr.snoc D122.st (Fr.nil n0) gd
  refine g_iinc D122 35 (1 : Int32) #[.val (.ref b), .val (.int ((0 : Int32) + (1 : Int32))), .val (.ref d), .val (.int (0 : Int32)), .val (.int (3 : Int32)), .val (.int (0 : Int32)), .val (.int c0)] d_jdk_52m21_32 rfl rfl rfl rfl ?_
  rw [show ((0 : Int32) + (1 : Int32)) = (1 : Int32) from by decide]
  refine g_iinc D122 38 (1 : Int32) #[.val (.ref b), .val (.int (1 : Int32)), .val (.ref d), .val (.int ((0 : Int32) + (1 : Int32))), .val (.int (3 : Int32)), .val (.int (0 : Int32)), .val (.int c0)] d_jdk_52m21_35 rfl rfl rfl rfl ?_
  rw [show ((0 : Int32) + (1 : Int32)) = (1 : Int32) from by decide]
  refine g_iinc D122 41 (1 : Int32) #[.val (.ref b), .val (.int (1 : Int32)), .val (.ref d), .val (.int (1 : Int32)), .val (.int (3 : Int32)), .val (.int ((0 : Int32) + (1 : Int32))), .val (.int c0)] d_jdk_52m21_38 rfl rfl rfl rfl ?_
  rw [show ((0 : Int32) + (1 : Int32)) = (1 : Int32) from by decide]
  refine g_goto D122 3 d_jdk_52m21_41 (by decide) (by decide) ?_
  refine g_iload D122 5 d_jdk_52m21_3 rfl rfl ?_
  refine g_iload D122 7 d_jdk_52m21_5 rfl rfl ?_
  refine g_icmpN D122 10 d_jdk_52m21_7 (by decide) rfl ?_
  refine g_aloadN D122 11 d_jdk_52m21_10 rfl rfl rfl ?_
  refine g_iloadN D122 12 d_jdk_52m21_11 rfl rfl ?_
  refine g_caload D122 13 (V_b.other W122 nbd) (v := (.int c1)) ⟨by decide, by decide⟩ rfl d_jdk_52m21_12 rfl ?_
  refine g_istore D122 15 #[.val (.ref b), .val (.int (1 : Int32)), .val (.ref d), .val (.int (1 : Int32)), .val (.int (3 : Int32)), .val (.int (1 : Int32)), .val (.int c1)] d_jdk_52m21_13 rfl rfl ?_
  refine g_iload D122 17 d_jdk_52m21_15 rfl rfl ?_
  refine g_sipush D122 20 (255 : Int32) d_jdk_52m21_17 rfl rfl ?_
  refine g_icmpY D122 26 d_jdk_52m21_20 (flt H1.2).2.2.2 (by decide) (by decide) ?_
  refine g_aloadN D122 27 d_jdk_52m21_26 rfl rfl rfl ?_
  refine g_iloadN D122 28 d_jdk_52m21_27 rfl rfl ?_
  refine g_iload D122 30 d_jdk_52m21_28 rfl rfl ?_
  refine g_i2b D122 31 d_jdk_52m21_30 rfl ?_
  refine g_bastore D122 32 V122 ⟨by decide, by decide⟩ 1 (by decide) (Nat.le_of_ble_eq_true rfl) (fun _ _ => trivial) d_jdk_52m21_31 rfl ?_
  intro T123 h123 W123 V123 D123
  rw [nb_b c1] at V123
  replace V123 : Arv Z h123 d kd .byte (3 : Int32) [(.int (StrChars.lo8 c0)), (.int (StrChars.lo8 c1)), (.int (0 : Int32))] (.int (0 : Int32)) := V123
  have N123 := Fr.snoc D123.st N122 gd
  refine g_iinc D123 35 (1 : Int32) #[.val (.ref b), .val (.int ((1 : Int32) + (1 : Int32))), .val (.ref d), .val (.int (1 : Int32)), .val (.int (3 : Int32)), .val (.int (1 : Int32)), .val (.int c1)] d_jdk_52m21_32 rfl rfl rfl rfl ?_
  rw [show ((1 : Int32) + (1 : Int32)) = (2 : Int32) from by decide]
  refine g_iinc D123 38 (1 : Int32) #[.val (.ref b), .val (.int (2 : Int32)), .val (.ref d), .val (.int ((1 : Int32) + (1 : Int32))), .val (.int (3 : Int32)), .val (.int (1 : Int32)), .val (.int c1)] d_jdk_52m21_35 rfl rfl rfl rfl ?_
  rw [show ((1 : Int32) + (1 : Int32)) = (2 : Int32) from by decide]
  refine g_iinc D123 41 (1 : Int32) #[.val (.ref b), .val (.int (2 : Int32)), .val (.ref d), .val (.int (2 : Int32)), .val (.int (3 : Int32)), .val (.int ((1 : Int32) + (1 : Int32))), .val (.int c1)] d_jdk_52m21_38 rfl rfl rfl rfl ?_
  rw [show ((1 : Int32) + (1 : Int32)) = (2 : Int32) from by decide]
  refine g_goto D123 3 d_jdk_52m21_41 (by decide) (by decide) ?_
  refine g_iload D123 5 d_jdk_52m21_3 rfl rfl ?_
  refine g_iload D123 7 d_jdk_52m21_5 rfl rfl ?_
  refine g_icmpN D123 10 d_jdk_52m21_7 (by decide) rfl ?_
  refine g_aloadN D123 11 d_jdk_52m21_10 rfl rfl rfl ?_
  refine g_iloadN D123 12 d_jdk_52m21_11 rfl rfl ?_
  refine g_caload D123 13 ((V_b.other W122 nbd).other W123 nbd) (v := (.int c2)) ⟨by decide, by decide⟩ rfl d_jdk_52m21_12 rfl ?_
  refine g_istore D123 15 #[.val (.ref b), .val (.int (2 : Int32)), .val (.ref d), .val (.int (2 : Int32)), .val (.int (3 : Int32)), .val (.int (2 : Int32)), .val (.int c2)] d_jdk_52m21_13 rfl rfl ?_
  refine g_iload D123 17 d_jdk_52m21_15 rfl rfl ?_
  refine g_sipush D123 20 (255 : Int32) d_jdk_52m21_17 rfl rfl ?_
  refine g_icmpY D123 26 d_jdk_52m21_20 (flt H2.2).2.2.2 (by decide) (by decide) ?_
  refine g_aloadN D123 27 d_jdk_52m21_26 rfl rfl rfl ?_
  refine g_iloadN D123 28 d_jdk_52m21_27 rfl rfl ?_
  refine g_iload D123 30 d_jdk_52m21_28 rfl rfl ?_
  refine g_i2b D123 31 d_jdk_52m21_30 rfl ?_
  refine g_bastore D123 32 V123 ⟨by decide, by decide⟩ 2 (by decide) (Nat.le_of_ble_eq_true rfl) (fun _ _ => trivial) d_jdk_52m21_31 rfl ?_
  intro T124 h124 W124 V124 D124
  rw [nb_b c2] at V124
  replace V124 : Arv Z h124 d kd .byte (3 : Int32) [(.int (StrChars.lo8 c0)), (.int (StrChars.lo8 c1)), (.int (StrChars.lo8 c2))] (.int (0 : Int32)) := V124
  have N124 := Fr.snoc D124.st N123 gd
  refine g_iinc D124 35 (1 : Int32) #[.val (.ref b), .val (.int ((2 : Int32) + (1 : Int32))), .val (.ref d), .val (.int (2 : Int32)), .val (.int (3 : Int32)), .val (.int (2 : Int32)), .val (.int c2)] d_jdk_52m21_32 rfl rfl rfl rfl ?_
  rw [show ((2 : Int32) + (1 : Int32)) = (3 : Int32) from by decide]
  refine g_iinc D124 38 (1 : Int32) #[.val (.ref b), .val (.int (3 : Int32)), .val (.ref d), .val (.int ((2 : Int32) + (1 : Int32))), .val (.int (3 : Int32)), .val (.int (2 : Int32)), .val (.int c2)] d_jdk_52m21_35 rfl rfl rfl rfl ?_
  rw [show ((2 : Int32) + (1 : Int32)) = (3 : Int32) from by decide]
  refine g_iinc D124 41 (1 : Int32) #[.val (.ref b), .val (.int (3 : Int32)), .val (.ref d), .val (.int (3 : Int32)), .val (.int (3 : Int32)), .val (.int ((2 : Int32) + (1 : Int32))), .val (.int c2)] d_jdk_52m21_38 rfl rfl rfl rfl ?_
  rw [show ((2 : Int32) + (1 : Int32)) = (3 : Int32) from by decide]
  refine g_goto D124 3 d_jdk_52m21_41 (by decide) (by decide) ?_
  refine g_iload D124 5 d_jdk_52m21_3 rfl rfl ?_
  refine g_iload D124 7 d_jdk_52m21_5 rfl rfl ?_
  refine g_icmpY D124 44 d_jdk_52m21_7 (by decide) (by decide) (by decide) ?_
  refine g_iload D124 46 d_jdk_52m21_44 rfl rfl ?_
  exact r_I D124 hret hlk d_jdk_52m21_46 ⟨rfl, N124, ((((Keep.refl _ [d]).wr W122 (Or.inl (List.mem_of_getElem? (i := 0) rfl))).wr W123 (Or.inl (List.mem_of_getElem? (i := 0) rfl))).wr W124 (Or.inl (List.mem_of_getElem? (i := 0) rfl))), V124⟩ (by decide) (by decide)
def Q_cC3_3 (Z : State) (b : Addr) (kc : ClassId) (c0 c1 c2 : Int32) (h0 : Heap) (n0 : Nat) : Option Value → Heap → List Loc → Prop := (fun v h L => ∃ t k, v = some (.ref t) ∧ h0.size ≤ t ∧ Fr n0 L ∧ Ext h0 h ∧ Arv Z h t k .byte (3 : Int32) [(.int (StrChars.lo8 c0)), (.int (StrChars.lo8 c1)), (.int (StrChars.lo8 c2))] (.int (0 : Int32)) ∧ Exa Z h t "[B")
set_option maxRecDepth 65536 in
set_option maxHeartbeats 40000000 in
theorem cC3_3 (l : Launch) (Z : State) (a0 : Array Value) (hw : ∀ d ∈ tables_1, d.before a0 Z = true) (ws : List Jvm.Cond) (b : Addr) (kc : ClassId) (c0 c1 c2 : Int32) (h0 : Heap) (n0 : Nat) (Z0 : n0 ≤ h0.size) (V_b : Arv Z h0 b kc .char (3 : Int32) [(.int c0), (.int c1), (.int c2)] (.int (0 : Int32))) (H0 : B8 c0) (H1 : B8 c1) (H2 : B8 c2) :
    Con l (⟨"java/lang/StringUTF16", "compress", "([CII)[B"⟩ : MethodName) jdk_52_method_16_code 6 (some (.array .byte)) ws ({ frames := 1, cells := 1, slots := 3, locals := 18 } : Room) Z #[(.ref b), (.int (0 : Int32)), (.int (3 : Int32))] h0 (Q_cC3_3 Z b kc c0 c1 c2 h0 n0) 1 3 := by
  refine enter (plainFor_of_name pn_0) ?_
  intro p e s m below meth c s₁ hnm hret hlk D0
  rw [ef_cC3_3 m b]
  refine g_iloadN D0 1 d_jdk_52m16_0 rfl rfl ?_
  refine g_newPE D0 3 (aty := .byte) (hw _ w_22) d_jdk_52m16_1 (by decide) (cap := 3) (by decide) (by decide) (by decide) (by decide) (ad := "[B") (by decide) (fun _ _ => trivial) rfl ?_
  intro T125 h125 a125 k125 g125 E125 V125 A125 D125
  have V125' : Arv Z h125 a125 k125 .byte (3 : Int32) [(.int (0 : Int32)), (.int (0 : Int32)), (.int (0 : Int32))] (.int (0 : Int32)) := V125.pad (pad_rep [] (.int (0 : Int32)) 3)
  refine g_astoreN D125 4 #[.val (.ref b), .val (.int (0 : Int32)), .val (.int (3 : Int32)), .val (.ref a125), .unset, .unset] d_jdk_52m16_3 rfl rfl rfl ?_
  refine g_aloadN D125 5 d_jdk_52m16_4 rfl rfl rfl ?_
  refine g_iloadN D125 6 d_jdk_52m16_5 rfl rfl ?_
  refine g_aloadN D125 7 d_jdk_52m16_6 rfl rfl rfl ?_
  refine g_iconst D125 8 (0 : Int32) d_jdk_52m16_7 rfl rfl ?_
  refine g_iloadN D125 9 d_jdk_52m16_8 rfl rfl ?_
  refine g_callS D125 12 (hw _ w_72) (hw _ w_73) (hw _ w_70) (hw _ w_74) (by decide) ((cC5_3 l Z a0 hw [] b a125 kc k125 c0 c1 c2 h125 n0 (Nat.le_trans Z0 E125.1) (V_b.ext E125) V125' (Nat.le_trans Z0 (Nat.le_of_eq g125.symm)) (Nat.ne_of_lt (Nat.lt_of_lt_of_le V_b.lt (Nat.le_of_eq g125.symm))) H0 H1 H2).back D125 0 (hw _ w_74) (hw _ w_70) (by decide) (by decide)) rfl [(.ref b), (.int (0 : Int32)), (.ref a125), (.int (0 : Int32)), (.int (3 : Int32))] rfl (lenOf pd_0 rfl) rfl (Nat.le_of_eq rfl) (by decide) (by decide) (fun _ _ _ _ => trivial) d_jdk_52m16_9 rfl ?_
  intro v126 T126 h126 L126 q126 D126
  obtain ⟨rfl, N126, K126, V126⟩ := q126
  have NF126 := Fr.app (Fr.nil n0) N126
  show Go p e below _ (T126.setTop (mkF m 12 #[.val (.ref b), .val (.int (0 : Int32)), .val (.int (3 : Int32)), .val (.ref a125), .unset, .unset] [(.int (3 : Int32))]))
  refine g_istore D126 14 #[.val (.ref b), .val (.int (0 : Int32)), .val (.int (3 : Int32)), .val (.ref a125), .val (.int (3 : Int32)), .unset] d_jdk_52m16_12 rfl rfl ?_
  refine g_iload D126 16 d_jdk_52m16_14 rfl rfl ?_
  refine g_iloadN D126 17 d_jdk_52m16_16 rfl rfl ?_
  refine g_icmpY D126 57 d_jdk_52m16_17 (by decide) (by decide) (by decide) ?_
  refine g_aloadN D126 58 d_jdk_52m16_57 rfl rfl rfl ?_
  exact r_A D126 hret rfl rfl hlk d_jdk_52m16_58 ⟨a125, k125, rfl, (Nat.le_trans (Nat.le_refl _) (Nat.le_of_eq g125.symm)), NF126, Keep.toExt (((Keep.refl _ []).ext E125).trans K126 (allS (Or.inr (Nat.le_trans (Nat.le_refl _) (Nat.le_of_eq g125.symm))) all0)), V126, (A125.keep K126)⟩ (by decide) (by decide)
set_option maxRecDepth 65536 in
set_option maxHeartbeats 40000000 in
theorem cCod_3 (l : Launch) (Z : State) (a0 : Array Value) (hw : ∀ d ∈ tables_1, d.before a0 Z = true) (ws : List Jvm.Cond) (t : Addr) (kb : ClassId) (vs : List Value) (h0 : Heap) (n0 : Nat) (Z0 : n0 ≤ h0.size) (V_t : Arv Z h0 t kb .byte (3 : Int32) vs (.int (0 : Int32))) :
    Con l (⟨"java/lang/StringUTF16", "coderFromArrayLen", "([BI)B"⟩ : MethodName) jdk_52_method_15_code 2 (some .byte) ws ({ frames := 0, cells := 0, slots := 0, locals := 0 } : Room) Z #[(.ref t), (.int (3 : Int32))] h0 (fun v h L => v = some (.int (0 : Int32)) ∧ L = [] ∧ h = h0) 0 0 := by
  refine enter (plainFor_of_name pn_0) ?_
  intro p e s m below meth c s₁ hnm hret hlk D0
  rw [ef_cCod_3 m t]
  refine g_iloadN D0 1 d_jdk_52m15_0 rfl rfl ?_
  refine g_aloadN D0 2 d_jdk_52m15_1 rfl rfl rfl ?_
  refine g_alen D0 3 V_t d_jdk_52m15_2 rfl ?_
  refine g_isub D0 4 d_jdk_52m15_3 rfl ?_
  rw [show ((3 : Int32) - (3 : Int32)) = (0 : Int32) from by decide]
  refine g_bipush D0 6 (31 : Int32) d_jdk_52m15_4 rfl rfl ?_
  refine g_iushr D0 7 d_jdk_52m15_6 rfl ?_
  rw [show (XT.ushr (0 : Int32) (31 : Int32)) = (0 : Int32) from by decide]
  refine g_i2b D0 8 d_jdk_52m15_7 rfl ?_
  rw [show ((0 : Int32).toInt8.toInt32) = (0 : Int32) from by decide]
  exact r_N D0 hret (by simp) hlk d_jdk_52m15_8 ⟨(by decide : some (Value.int (nar .byte (0 : Int32))) = some (.int 0)), rfl, rfl⟩ (by decide) (by decide)
def Q_cN4_3 (Z : State) (x b : Addr) (kc : ClassId) (zc : Int32) (c0 c1 c2 : Int32) (h0 : Heap) (n0 : Nat) : Option Value → Heap → List Loc → Prop := (fun v h L => v = none ∧ Fr n0 L ∧ Keep h0 h [x] ∧ LK Z h x [c0, c1, c2])
set_option maxRecDepth 65536 in
set_option maxHeartbeats 40000000 in
theorem cN4_3 (l : Launch) (Z : State) (a0 : Array Value) (hw : ∀ d ∈ tables_1, d.before a0 Z = true) (ws : List Jvm.Cond) (x b : Addr) (kc : ClassId) (zc : Int32) (c0 c1 c2 : Int32) (h0 : Heap) (n0 : Nat) (Z0 : n0 ≤ h0.size) (OLD : Old Z n0 h0) (CS : Sta Z Z.heap "java/lang/String" "COMPACT_STRINGS" "Z" (.int zc)) (hzc : ¬ zc = 0) (E_x : Exa Z h0 x "java/lang/String") (F_v : Fld Z h0 x "java/lang/String" "value" "[B" .null) (F_c : Fld Z h0 x "java/lang/String" "coder" "B" (.int (0 : Int32))) (gx : n0 ≤ x) (F_h : Fld Z h0 x "java/lang/String" "hash" "I" (.int (0 : Int32))) (F_z : Fld Z h0 x "java/lang/String" "hashIsZero" "Z" (.int (0 : Int32))) (V_b : Arv Z h0 b kc .char (3 : Int32) [(.int c0), (.int c1), (.int c2)] (.int (0 : Int32))) (H0 : B8 c0) (H1 : B8 c1) (H2 : B8 c2) :
    Con l (⟨"java/lang/String", "<init>", "([CIILjava/lang/Void;)V"⟩ : MethodName) jdk_42_method_149_code 6 none ws ({ frames := 2, cells := 1, slots := 3, locals := 35 } : Room) Z #[(.ref x), (.ref b), (.int (0 : Int32)), (.int (3 : Int32)), .null] h0 (Q_cN4_3 Z x b kc zc c0 c1 c2 h0 n0) 1 3 := by
  refine enter (plainFor_of_name pn_1) ?_
  intro p e s m below meth c s₁ hnm hret hlk D0
  rw [ef_cN4_3 m x b]
  refine g_aloadN D0 1 d_jdk_42m149_0 rfl rfl rfl ?_
  refine g_initO D0 4 (hw _ w_18) (hw _ w_19) (hw _ w_20) rfl d_jdk_42m149_1 (by decide) (W := 0) (Nat.le_of_eq rfl) (by decide) rfl ?_
  intro T127 D127
  refine g_iloadN D127 5 d_jdk_42m149_4 rfl rfl ?_
  refine g_ifY D127 27 d_jdk_42m149_5 (by decide) (by decide) (by decide) ?_
  refine g_getS D127 30 (hw _ w_56) Via.refl (CS.ext OLD.2) d_jdk_42m149_27 rfl ?_
  intro T128 D128
  refine g_ifN D128 33 d_jdk_42m149_30 (feq hzc).1 rfl ?_
  refine g_aloadN D128 34 d_jdk_42m149_33 rfl rfl rfl ?_
  refine g_iloadN D128 35 d_jdk_42m149_34 rfl rfl ?_
  refine g_iloadN D128 36 d_jdk_42m149_35 rfl rfl ?_
  refine g_callS D128 39 (hw _ w_68) (hw _ w_69) (hw _ w_70) (hw _ w_71) (by decide) ((cC3_3 l Z a0 hw [] b kc c0 c1 c2 h0 n0 Z0 V_b H0 H1 H2).back D128 0 (hw _ w_71) (hw _ w_70) (by decide) (by decide)) rfl [(.ref b), (.int (0 : Int32)), (.int (3 : Int32))] rfl (lenOf pd_1 rfl) rfl (Nat.le_of_eq rfl) (by decide) (by decide) (fun _ _ _ _ => trivial) d_jdk_42m149_36 rfl ?_
  intro v129 T129 h129 L129 q129 D129
  obtain ⟨t129, k129, rfl, g129, N129, E129, V129, A129⟩ := q129
  have NF129 := Fr.app (Fr.nil n0) N129
  show Go p e below _ (T129.setTop (mkF m 39 #[.val (.ref x), .val (.ref b), .val (.int (0 : Int32)), .val (.int (3 : Int32)), .val .null, .unset] [(.ref t129)]))
  refine g_astore D129 41 #[.val (.ref x), .val (.ref b), .val (.int (0 : Int32)), .val (.int (3 : Int32)), .val .null, .val (.ref t129)] d_jdk_42m149_39 rfl rfl rfl ?_
  refine g_aloadN D129 42 d_jdk_42m149_41 rfl rfl rfl ?_
  refine g_aload D129 44 d_jdk_42m149_42 rfl rfl rfl ?_
  refine g_iloadN D129 45 d_jdk_42m149_44 rfl rfl ?_
  refine g_callSp D129 48 (hw _ w_75) (hw _ w_76) (hw _ w_70) (hw _ w_77) (by decide) ((cCod_3 l Z a0 hw [] t129 k129 _ h129 n0 (Nat.le_trans Z0 E129.1) V129).back D129 1 (hw _ w_77) (hw _ w_70) (by decide) (by decide)) rfl [(.ref t129), (.int (3 : Int32))] rfl (lenOf pd_2 rfl) rfl (Nat.le_of_eq rfl) (by decide) (by decide) d_jdk_42m149_45 rfl ?_
  intro v130 T130 q130 D130
  subst q130
  show Go p e below _ (T130.setTop (mkF m 48 #[.val (.ref x), .val (.ref b), .val (.int (0 : Int32)), .val (.int (3 : Int32)), .val .null, .val (.ref t129)] [(.int (0 : Int32)), (.ref x)]))
  refine g_putF D130 51 (hw _ w_28) Via.refl (F_c.ext E129) (E_x.ext E129) (Or.inr ⟨(hw _ w_24), rfl, hnm⟩) (hw _ w_9) (ty := .byte) (by decide) rfl rfl (fun _ _ => trivial) d_jdk_42m149_48 rfl ?_
  intro T131 h131 W131 D131
  have N131 := Fr.snoc D131.st NF129 gx
  have F131 := (F_c.ext E129).same W131
  refine g_aloadN D131 52 d_jdk_42m149_51 rfl rfl rfl ?_
  refine g_aload D131 54 d_jdk_42m149_52 rfl rfl rfl ?_
  refine g_putF D131 57 (hw _ w_27) Via.refl ((F_v.ext E129).other W131 (Or.inr (slot_ne (Or.inr (hw _ w_23)) (Or.inr (hw _ w_24)) (by decide) (t := (.array .byte)) (t' := .byte) (by decide) (by decide)))) ((E_x.ext E129).wr W131) (Or.inr ⟨(hw _ w_23), rfl, hnm⟩) (hw _ w_9) (ty := (.array .byte)) (by decide) rfl rfl (fun _ _ => trivial) d_jdk_42m149_54 rfl ?_
  intro T132 h132 W132 D132
  have N132 := Fr.snoc D132.st N131 gx
  have F132 := ((F_v.ext E129).other W131 (Or.inr (slot_ne (Or.inr (hw _ w_23)) (Or.inr (hw _ w_24)) (by decide) (t := (.array .byte)) (t' := .byte) (by decide) (by decide)))).same W132
  exact r_V D132 hret hlk d_jdk_42m149_57 ⟨rfl, N132, ((((Keep.refl _ [x]).ext E129).wr W131 (Or.inl (List.mem_of_getElem? (i := 0) rfl))).wr W132 (Or.inl (List.mem_of_getElem? (i := 0) rfl))), ⟨t129, k129, (((E_x.ext E129).wr W131).wr W132), (F131.other W132 (Or.inr (slot_ne (Or.inr (hw _ w_24)) (Or.inr (hw _ w_23)) (by decide) (t := .byte) (t' := (.array .byte)) (by decide) (by decide)))), F132, ((V129.other W131 (Ne.symm (Nat.ne_of_lt (Nat.lt_of_lt_of_le E_x.lt g129)))).other W132 (Ne.symm (Nat.ne_of_lt (Nat.lt_of_lt_of_le E_x.lt g129)))), (b8_cons H0 (b8_cons H1 (b8_cons H2 b8_nil))), Nat.le_of_ble_eq_true rfl, (((F_h.ext E129).other W131 (Or.inr (slot_ne (Or.inl (hw _ w_48)) (Or.inr (hw _ w_24)) (by decide) (t := .int) (t' := .byte) (by decide) (by decide)))).other W132 (Or.inr (slot_ne (Or.inl (hw _ w_48)) (Or.inr (hw _ w_23)) (by decide) (t := .int) (t' := (.array .byte)) (by decide) (by decide)))), (((F_z.ext E129).other W131 (Or.inr (slot_ne (Or.inl (hw _ w_50)) (Or.inr (hw _ w_24)) (by decide) (t := .boolean) (t' := .byte) (by decide) (by decide)))).other W132 (Or.inr (slot_ne (Or.inl (hw _ w_50)) (Or.inr (hw _ w_23)) (by decide) (t := .boolean) (t' := (.array .byte)) (by decide) (by decide)))), Or.inr ((A129.wr W131).wr W132)⟩⟩ (by decide) (by decide)
def Q_cN1_3 (Z : State) (x b : Addr) (kc : ClassId) (zc : Int32) (c0 c1 c2 : Int32) (h0 : Heap) (n0 : Nat) : Option Value → Heap → List Loc → Prop := (fun v h L => v = none ∧ Fr n0 L ∧ Keep h0 h [x] ∧ LK Z h x [c0, c1, c2])
set_option maxRecDepth 65536 in
set_option maxHeartbeats 40000000 in
theorem cN1_3 (l : Launch) (Z : State) (a0 : Array Value) (hw : ∀ d ∈ tables_1, d.before a0 Z = true) (ws : List Jvm.Cond) (x b : Addr) (kc : ClassId) (zc : Int32) (c0 c1 c2 : Int32) (h0 : Heap) (n0 : Nat) (Z0 : n0 ≤ h0.size) (OLD : Old Z n0 h0) (CS : Sta Z Z.heap "java/lang/String" "COMPACT_STRINGS" "Z" (.int zc)) (hzc : ¬ zc = 0) (E_x : Exa Z h0 x "java/lang/String") (F_v : Fld Z h0 x "java/lang/String" "value" "[B" .null) (F_c : Fld Z h0 x "java/lang/String" "coder" "B" (.int (0 : Int32))) (gx : n0 ≤ x) (F_h : Fld Z h0 x "java/lang/String" "hash" "I" (.int (0 : Int32))) (F_z : Fld Z h0 x "java/lang/String" "hashIsZero" "Z" (.int (0 : Int32))) (V_b : Arv Z h0 b kc .char (3 : Int32) [(.int c0), (.int c1), (.int c2)] (.int (0 : Int32))) (H0 : B8 c0) (H1 : B8 c1) (H2 : B8 c2) :
    Con l (⟨"java/lang/String", "<init>", "([C)V"⟩ : MethodName) jdk_42_method_3_code 2 none ws ({ frames := 3, cells := 1, slots := 3, locals := 52 } : Room) Z #[(.ref x), (.ref b)] h0 (Q_cN1_3 Z x b kc zc c0 c1 c2 h0 n0) 1 3 := by
  refine enter (plainFor_of_name pn_1) ?_
  intro p e s m below meth c s₁ hnm hret hlk D0
  rw [ef_cN1_3 m x b]
  refine g_aloadN D0 1 d_jdk_42m3_0 rfl rfl rfl ?_
  refine g_aloadN D0 2 d_jdk_42m3_1 rfl rfl rfl ?_
  refine g_iconst D0 3 (0 : Int32) d_jdk_42m3_2 rfl rfl ?_
  refine g_aloadN D0 4 d_jdk_42m3_3 rfl rfl rfl ?_
  refine g_alen D0 5 V_b d_jdk_42m3_4 rfl ?_
  refine g_aconst D0 6 d_jdk_42m3_5 rfl ?_
  refine g_callN D0 9 rfl (hw _ w_14) (hw _ w_15) (hw _ w_17) (by decide) ((cN4_3 l Z a0 hw [] x b kc zc c0 c1 c2 h0 n0 Z0 OLD CS hzc E_x F_v F_c gx F_h F_z V_b H0 H1 H2).back D0 0 (hw _ w_17) (hw _ w_10) (by decide) (by decide)) rfl [(.ref b), (.int (0 : Int32)), (.int (3 : Int32)), .null] rfl (lenOf pd_3 rfl) rfl (Nat.le_of_eq rfl) (by decide) (by decide) (fun _ _ _ _ => trivial) d_jdk_42m3_6 rfl ?_
  intro v133 T133 h133 L133 q133 D133
  obtain ⟨rfl, X1⟩ := q133
  rw [List.nil_append] at D133
  show Go p e below _ (T133.setTop (mkF m 9 #[.val (.ref x), .val (.ref b)] []))
  exact r_V D133 hret hlk d_jdk_42m3_9 ⟨rfl, X1⟩ (by decide) (by decide)
def Q_cE4 (Z : State) (x b : Addr) (h0 : Heap) (n0 : Nat) : Option Value → Heap → List Loc → Prop := (fun v h L => v = none ∧ Fr n0 L ∧ Keep h0 h [x] ∧ LK Z h x [])
set_option maxRecDepth 65536 in
set_option maxHeartbeats 40000000 in
theorem cE4 (l : Launch) (Z : State) (a0 : Array Value) (hw : ∀ d ∈ tables_1, d.before a0 Z = true) (ws : List Jvm.Cond) (x b : Addr) (h0 : Heap) (n0 : Nat) (Z0 : n0 ≤ h0.size) (hEW : EW Z a0 consts_1) (E_x : Exa Z h0 x "java/lang/String") (F_v : Fld Z h0 x "java/lang/String" "value" "[B" .null) (F_c : Fld Z h0 x "java/lang/String" "coder" "B" (.int (0 : Int32))) (gx : n0 ≤ x) (F_h : Fld Z h0 x "java/lang/String" "hash" "I" (.int (0 : Int32))) (F_z : Fld Z h0 x "java/lang/String" "hashIsZero" "Z" (.int (0 : Int32))) :
    ConW l (⟨"java/lang/String", "<init>", "([CIILjava/lang/Void;)V"⟩ : MethodName) jdk_42_method_149_code 6 none ws ({ frames := 1, cells := 4, slots := 8, locals := 12 } : Room) Z consts_1 #[(.ref x), (.ref b), (.int (0 : Int32)), (.int (0 : Int32)), .null] h0 (Q_cE4 Z x b h0 n0) 4 8 := by
  refine enterW (plainFor_of_name pn_1) ?_
  intro p e s m below meth c s₁ hnm hret hlk D0
  rw [ef_cE4 m x b]
  refine g_aloadN D0 1 d_jdk_42m149_0 rfl rfl rfl ?_
  refine g_initO D0 4 (hw _ w_18) (hw _ w_19) (hw _ w_20) rfl d_jdk_42m149_1 (by decide) (W := 0) (Nat.le_of_eq rfl) (by decide) rfl ?_
  intro T134 D134
  refine g_iloadN D134 5 d_jdk_42m149_4 rfl rfl ?_
  refine g_ifN D134 8 d_jdk_42m149_5 (by decide) rfl ?_
  refine g_aloadN D134 9 d_jdk_42m149_8 rfl rfl rfl ?_
  refine g_ldcS D134 11 hEW (hw _ w_21) (fun a ha => hw a (wsa a ha)) (by decide) [] 0 ⟨by decide, rfl⟩ ⟨by decide, by decide⟩ (by decide) (by decide) d_jdk_42m149_9 (by decide) (by decide) rfl ?_
  intro s135 T135 h135 la135 lt135 lk135 E135 X135 C135 V135 A135 HS135 SF135 D135
  have S135 := SF135 x E_x.lt (safe_null D134.wm.alike E_x F_v)
  refine g_getF D135 14 (hw _ w_27) Via.refl V135 d_jdk_42m149_11 rfl ?_
  intro T136 D136
  refine g_putF D136 17 (hw _ w_27) Via.refl (F_v.ext E135) (E_x.ext E135) (Or.inr ⟨(hw _ w_23), rfl, hnm⟩) (hw _ w_9) (ty := (.array .byte)) (by decide) rfl rfl (fun _ W => D136.iv.wr S135 W) d_jdk_42m149_14 rfl ?_
  intro T137 h137 W137 D137
  have N137 := Fr.snoc D137.st (Fr.nil n0) gx
  have F137 := (F_v.ext E135).same W137
  have S135b := D136.iv.safeWr S135 W137 S135
  refine g_aloadN D137 18 d_jdk_42m149_17 rfl rfl rfl ?_
  refine g_ldcS D137 20 hEW (hw _ w_21) (fun a ha => hw a (wsa a ha)) (by decide) [] 0 ⟨by decide, rfl⟩ ⟨by decide, by decide⟩ (by decide) (by decide) d_jdk_42m149_18 (by decide) (by decide) rfl ?_
  intro s138 T138 h138 la138 lt138 lk138 E138 X138 C138 V138 A138 HS138 SF138 D138
  have S138 := SF138 x ((E_x.ext E135).wr W137).lt S135b
  refine g_getF D138 23 (hw _ w_28) Via.refl C138 d_jdk_42m149_20 rfl ?_
  intro T139 D139
  refine g_putF D139 26 (hw _ w_28) Via.refl (((F_c.ext E135).other W137 (Or.inr (slot_ne (Or.inr (hw _ w_24)) (Or.inr (hw _ w_23)) (by decide) (t := .byte) (t' := (.array .byte)) (by decide) (by decide)))).ext E138) (((E_x.ext E135).wr W137).ext E138) (Or.inr ⟨(hw _ w_24), rfl, hnm⟩) (hw _ w_9) (ty := .byte) (by decide) rfl rfl (fun _ W => D139.iv.wr S138 W) d_jdk_42m149_23 rfl ?_
  intro T140 h140 W140 D140
  have N140 := Fr.snoc D140.st N137 gx
  have F140 := (((F_c.ext E135).other W137 (Or.inr (slot_ne (Or.inr (hw _ w_24)) (Or.inr (hw _ w_23)) (by decide) (t := .byte) (t' := (.array .byte)) (by decide) (by decide)))).ext E138).same W140
  exact r_Vw D140 hEW hret hlk d_jdk_42m149_26 ⟨rfl, N140, (((((Keep.refl _ [x]).ext E135).wr W137 (Or.inl (List.mem_of_getElem? (i := 0) rfl))).ext E138).wr W140 (Or.inl (List.mem_of_getElem? (i := 0) rfl))), ⟨lt135, lk135, ((((E_x.ext E135).wr W137).ext E138).wr W140), F140, ((F137.ext E138).other W140 (Or.inr (slot_ne (Or.inr (hw _ w_23)) (Or.inr (hw _ w_24)) (by decide) (t := (.array .byte)) (t' := .byte) (by decide) (by decide)))), (((A135.other W137 (Ne.symm (HS135 x S135).2)).ext E138).other W140 (Ne.symm (HS135 x S135).2)), b8_nil, Nat.le_of_ble_eq_true rfl, ((((F_h.ext E135).other W137 (Or.inr (slot_ne (Or.inl (hw _ w_48)) (Or.inr (hw _ w_23)) (by decide) (t := .int) (t' := (.array .byte)) (by decide) (by decide)))).ext E138).other W140 (Or.inr (slot_ne (Or.inl (hw _ w_48)) (Or.inr (hw _ w_24)) (by decide) (t := .int) (t' := .byte) (by decide) (by decide)))), ((((F_z.ext E135).other W137 (Or.inr (slot_ne (Or.inl (hw _ w_50)) (Or.inr (hw _ w_23)) (by decide) (t := .boolean) (t' := (.array .byte)) (by decide) (by decide)))).ext E138).other W140 (Or.inr (slot_ne (Or.inl (hw _ w_50)) (Or.inr (hw _ w_24)) (by decide) (t := .boolean) (t' := .byte) (by decide) (by decide)))), Or.inl rfl⟩⟩ (by decide) (by decide)
def Q_cE1 (Z : State) (x b : Addr) (kb : ClassId) (h0 : Heap) (n0 : Nat) : Option Value → Heap → List Loc → Prop := (fun v h L => v = none ∧ Fr n0 L ∧ Keep h0 h [x] ∧ LK Z h x [])
set_option maxRecDepth 65536 in
set_option maxHeartbeats 40000000 in
theorem cE1 (l : Launch) (Z : State) (a0 : Array Value) (hw : ∀ d ∈ tables_1, d.before a0 Z = true) (ws : List Jvm.Cond) (x b : Addr) (kb : ClassId) (h0 : Heap) (n0 : Nat) (Z0 : n0 ≤ h0.size) (hEW : EW Z a0 consts_1) (E_x : Exa Z h0 x "java/lang/String") (F_v : Fld Z h0 x "java/lang/String" "value" "[B" .null) (F_c : Fld Z h0 x "java/lang/String" "coder" "B" (.int (0 : Int32))) (gx : n0 ≤ x) (F_h : Fld Z h0 x "java/lang/String" "hash" "I" (.int (0 : Int32))) (F_z : Fld Z h0 x "java/lang/String" "hashIsZero" "Z" (.int (0 : Int32))) (V_b : Arv Z h0 b kb .char (0 : Int32) [] (.int (0 : Int32))) :
    ConW l (⟨"java/lang/String", "<init>", "([C)V"⟩ : MethodName) jdk_42_method_3_code 2 none ws ({ frames := 2, cells := 4, slots := 8, locals := 29 } : Room) Z consts_1 #[(.ref x), (.ref b)] h0 (Q_cE1 Z x b kb h0 n0) 4 8 := by
  refine enterW (plainFor_of_name pn_1) ?_
  intro p e s m below meth c s₁ hnm hret hlk D0
  rw [ef_cE1 m x b]
  refine g_aloadN D0 1 d_jdk_42m3_0 rfl rfl rfl ?_
  refine g_aloadN D0 2 d_jdk_42m3_1 rfl rfl rfl ?_
  refine g_iconst D0 3 (0 : Int32) d_jdk_42m3_2 rfl rfl ?_
  refine g_aloadN D0 4 d_jdk_42m3_3 rfl rfl rfl ?_
  refine g_alen D0 5 V_b d_jdk_42m3_4 rfl ?_
  refine g_aconst D0 6 d_jdk_42m3_5 rfl ?_
  refine g_callNW D0 9 hEW rfl (hw _ w_14) (hw _ w_15) (hw _ w_10) (hw _ w_17) (by decide) (cE4 l Z a0 hw [] x b h0 n0 Z0 hEW E_x F_v F_c gx F_h F_z) rfl [(.ref b), (.int (0 : Int32)), (.int (0 : Int32)), .null] rfl (lenOf pd_3 rfl) rfl 0 (Nat.le_of_eq rfl) (by decide) (by decide) (by decide) (by decide) d_jdk_42m3_6 rfl ?_
  intro v141 s141 T141 h141 L141 q141 SF141 D141
  obtain ⟨rfl, X1⟩ := q141
  rw [List.nil_append] at D141
  show Go p e below _ (T141.setTop (mkF m 9 #[.val (.ref x), .val (.ref b)] []))
  exact r_Vw D141 hEW hret hlk d_jdk_42m3_9 ⟨rfl, X1⟩ (by decide) (by decide)
def Q_cMk (Z : State) (i zc : Int32) (h0 : Heap) (n0 : Nat) : Option Value → Vm → Heap → List Loc → Prop := (fun v vm h L => ∃ w, v = some w ∧ Fr n0 L ∧ Ext h0 h ∧ (w = .null ∧ own_mk i = none ∨ ∃ a cs, w = .ref a ∧ own_mk i = some cs ∧ LK Z h a cs ∧ h0.size ≤ a ∧ Safe Z consts_1 vm h a))
set_option maxRecDepth 65536 in
set_option maxHeartbeats 40000000 in
theorem cMk (l : Launch) (Z : State) (a0 : Array Value) (hw : ∀ d ∈ tables_1, d.before a0 Z = true) (ws : List Jvm.Cond) (i zc : Int32) (h0 : Heap) (n0 : Nat) (Z0 : n0 ≤ h0.size) (hEW : EW Z a0 consts_1) (OLD : Old Z n0 h0) (CS : Sta Z Z.heap "java/lang/String" "COMPACT_STRINGS" "Z" (.int zc)) (hzc : ¬ zc = 0) :
    ConV l (⟨"com/example/pactum/pactum/model/CredentialsEqualsPinLaw", "mk", "(I)Ljava/lang/String;"⟩ : MethodName) method_2_code 3 (some (.object "java/lang/String")) ws ({ frames := 4, cells := 6, slots := 12, locals := 66 } : Room) Z consts_1 #[(.int i)] h0 (Q_cMk Z i zc h0 n0) 6 12 := by
  refine enterV (plainFor_of_name pn_2) ?_
  intro p e s m below meth c s₁ hnm hret hlk D0
  rw [ef_cMk m i]
  refine g_iloadN D0 1 d_method_2_0 rfl rfl ?_
  refine g_iconst D0 2 (3 : Int32) d_method_2_1 rfl rfl ?_
  refine g_iand D0 3 d_method_2_2 rfl ?_
  by_cases z0 : (i &&& (3 : Int32)) = (0 : Int32)
  · refine g_ifN D0 6 d_method_2_3 (teq z0).2 rfl ?_
    refine g_aconst D0 7 d_method_2_6 rfl ?_
    exact r_Av D0 hEW hret rfl rfl hlk d_method_2_7 (fun vm1 hs => ⟨.null, rfl, Fr.nil n0, ⟨Nat.le_refl _, fun _ _ q => q⟩, Or.inl ⟨rfl, if_pos z0⟩⟩) (by decide) (by decide)
  refine g_ifY D0 8 d_method_2_3 (feq z0).2 (by decide) (by decide) ?_
  refine g_iloadN D0 9 d_method_2_8 rfl rfl ?_
  refine g_iconst D0 10 (2 : Int32) d_method_2_9 rfl rfl ?_
  refine g_iushr D0 11 d_method_2_10 rfl ?_
  refine g_iconst D0 12 (3 : Int32) d_method_2_11 rfl rfl ?_
  refine g_iand D0 13 d_method_2_12 rfl ?_
  refine g_istoreN D0 14 #[.val (.int i), .val (.int ((XT.ushr i (2 : Int32)) &&& (3 : Int32))), .unset] d_method_2_13 rfl rfl ?_
  generalize henn : ((XT.ushr i (2 : Int32)) &&& (3 : Int32)) = nn
  have hnn := own_n3 i
  have hee : own_n i = nn := henn
  rw [hee] at hnn
  rcases hnn with rfl | rfl | rfl | rfl
  · show Go p e below _ (s₁.setTop (mkF m 14 #[.val (.int i), .val (.int (0 : Int32)), .unset] []))
    refine g_iloadN D0 15 d_method_2_14 rfl rfl ?_
    refine g_newP D0 17 (aty := .char) (hw _ w_7) d_method_2_15 (by decide) (cap := 0) (by decide) (by decide) (by decide) (by decide) (fun _ E => D0.iv.ext E) rfl ?_
    intro T142 h142 a142 k142 g142 E142 V142 D142
    refine g_astoreN D142 18 #[.val (.int i), .val (.int (0 : Int32)), .val (.ref a142)] d_method_2_17 rfl rfl rfl ?_
    refine g_iloadN D142 19 d_method_2_18 rfl rfl ?_
    refine g_ifY D142 33 d_method_2_19 (by decide) (by decide) (by decide) ?_
    refine g_iloadN D142 34 d_method_2_33 rfl rfl ?_
    refine g_iconst D142 35 (1 : Int32) d_method_2_34 rfl rfl ?_
    refine g_icmpY D142 50 d_method_2_35 (by decide) (by decide) (by decide) ?_
    refine g_iloadN D142 51 d_method_2_50 rfl rfl ?_
    refine g_iconst D142 52 (2 : Int32) d_method_2_51 rfl rfl ?_
    refine g_icmpY D142 67 d_method_2_52 (by decide) (by decide) (by decide) ?_
    refine g_newO D142 70 (hw _ w_8) (hw _ w_9) (hw _ w_10) d_method_2_67 (by decide) (by decide) (fun _ E => D142.iv.ext E) rfl ?_
    intro T143 h143 a143 g143 E143 A143 N143 D143
    refine g_dup D143 71 d_method_2_70 rfl rfl ?_
    refine g_aloadN D143 72 d_method_2_71 rfl rfl rfl ?_
    have S0 := D0.iv.safeExt (Keep.toExt (((Keep.refl _ []).ext E142).ext E143)) (Safe.new (Nat.le_trans (Nat.le_trans (Nat.le_refl _) E142.1) (Nat.le_of_eq g143.symm)))
    refine g_callNW D143 75 hEW rfl (hw _ w_11) (hw _ w_12) (hw _ w_10) (hw _ w_13) (by decide) (cE1 l Z a0 hw [] a143 a142 k142 h143 n0 (Nat.le_trans (Nat.le_trans Z0 E142.1) E143.1) hEW A143 (N143 (Or.inr (hw _ w_23)) (ty := (.array .byte)) (by decide)) (N143 (Or.inr (hw _ w_24)) (ty := .byte) (by decide)) (Nat.le_trans (Nat.le_trans Z0 E142.1) (Nat.le_of_eq g143.symm)) (N143 (Or.inl (hw _ w_48)) (ty := .int) (by decide)) (N143 (Or.inl (hw _ w_50)) (ty := .boolean) (by decide)) (V142.ext E143)) rfl [(.ref a142)] rfl (lenOf pd_4 rfl) rfl 1 (Nat.le_of_eq rfl) (by decide) (by decide) (by decide) (by decide) d_method_2_72 rfl ?_
    intro v144 s144 T144 h144 L144 q144 SF144 D144
    obtain ⟨rfl, N144, K144, X144⟩ := q144
    have NF144 := Fr.app (Fr.nil n0) N144
    have S1 := SF144 a143 A143.lt S0
    show Go p e below _ (T144.setTop (mkF m 75 #[.val (.int i), .val (.int (0 : Int32)), .val (.ref a142)] [(.ref a143)]))
    exact r_Av D144 hEW hret rfl rfl hlk d_method_2_75 (fun vm1 hs => ⟨.ref a143, rfl, NF144, Keep.toExt ((((Keep.refl _ []).ext E142).ext E143).trans K144 (allS (Or.inr (Nat.le_trans (Nat.le_trans (Nat.le_refl _) E142.1) (Nat.le_of_eq g143.symm))) all0)), Or.inr ⟨a143, [], rfl, (by rw [own_mk, if_neg z0, hee]; rfl), X144, (Nat.le_trans (Nat.le_trans (Nat.le_refl _) E142.1) (Nat.le_of_eq g143.symm)), hs a143 X144.exa.lt S1⟩⟩) (by decide) (by decide)
  · show Go p e below _ (s₁.setTop (mkF m 14 #[.val (.int i), .val (.int (1 : Int32)), .unset] []))
    refine g_iloadN D0 15 d_method_2_14 rfl rfl ?_
    refine g_newP D0 17 (aty := .char) (hw _ w_7) d_method_2_15 (by decide) (cap := 1) (by decide) (by decide) (by decide) (by decide) (fun _ E => D0.iv.ext E) rfl ?_
    intro T145 h145 a145 k145 g145 E145 V145 D145
    have V145' : Arv Z h145 a145 k145 .char (1 : Int32) [(.int (0 : Int32))] (.int (0 : Int32)) := V145.pad (pad_rep [] (.int (0 : Int32)) 1)
    refine g_astoreN D145 18 #[.val (.int i), .val (.int (1 : Int32)), .val (.ref a145)] d_method_2_17 rfl rfl rfl ?_
    refine g_iloadN D145 19 d_method_2_18 rfl rfl ?_
    refine g_ifN D145 22 d_method_2_19 (by decide) rfl ?_
    refine g_aloadN D145 23 d_method_2_22 rfl rfl rfl ?_
    refine g_iconst D145 24 (0 : Int32) d_method_2_23 rfl rfl ?_
    refine g_iloadN D145 25 d_method_2_24 rfl rfl ?_
    refine g_iconst D145 26 (4 : Int32) d_method_2_25 rfl rfl ?_
    refine g_iushr D145 27 d_method_2_26 rfl ?_
    refine g_sipush D145 30 (255 : Int32) d_method_2_27 rfl rfl ?_
    refine g_iand D145 31 d_method_2_30 rfl ?_
    refine g_i2c D145 32 d_method_2_31 rfl ?_
    refine g_castore D145 33 V145' ⟨by decide, by decide⟩ 0 (by decide) (Nat.le_of_ble_eq_true rfl) (fun _ W => D145.iv.wr (Safe.arv D145.wm.alike V145' (by decide)) W) d_method_2_32 rfl ?_
    intro T146 h146 W146 V146 D146
    rw [nar_c (b8_i2c _)] at V146
    replace V146 : Arv Z h146 a145 k145 .char (1 : Int32) [(.int (own_c 4 i))] (.int (0 : Int32)) := V146
    have N146 := Fr.snoc D146.st (Fr.nil n0) (Nat.le_trans Z0 (Nat.le_of_eq g145.symm))
    refine g_iloadN D146 34 d_method_2_33 rfl rfl ?_
    refine g_iconst D146 35 (1 : Int32) d_method_2_34 rfl rfl ?_
    refine g_icmpY D146 50 d_method_2_35 (by decide) (by decide) (by decide) ?_
    refine g_iloadN D146 51 d_method_2_50 rfl rfl ?_
    refine g_iconst D146 52 (2 : Int32) d_method_2_51 rfl rfl ?_
    refine g_icmpY D146 67 d_method_2_52 (by decide) (by decide) (by decide) ?_
    refine g_newO D146 70 (hw _ w_8) (hw _ w_9) (hw _ w_10) d_method_2_67 (by decide) (by decide) (fun _ E => D146.iv.ext E) rfl ?_
    intro T147 h147 a147 g147 E147 A147 N147 D147
    refine g_dup D147 71 d_method_2_70 rfl rfl ?_
    refine g_aloadN D147 72 d_method_2_71 rfl rfl rfl ?_
    refine g_callN D147 75 rfl (hw _ w_11) (hw _ w_12) (hw _ w_13) (by decide) ((cN1_1 l Z a0 hw [] a147 a145 k145 zc (own_c 4 i) h147 n0 (Nat.le_trans (Nat.le_trans (Nat.le_trans Z0 E145.1) (Keep.of_wr W146).1) E147.1) (((OLD.ext E145).wr W146 (Nat.le_trans Z0 (Nat.le_of_eq g145.symm))).ext E147) CS hzc A147 (N147 (Or.inr (hw _ w_23)) (ty := (.array .byte)) (by decide)) (N147 (Or.inr (hw _ w_24)) (ty := .byte) (by decide)) (Nat.le_trans (Nat.le_trans (Nat.le_trans Z0 E145.1) (Keep.of_wr W146).1) (Nat.le_of_eq g147.symm)) (N147 (Or.inl (hw _ w_48)) (ty := .int) (by decide)) (N147 (Or.inl (hw _ w_50)) (ty := .boolean) (by decide)) (V146.ext E147) (own_cb 4 i)).back D147 1 (hw _ w_13) (hw _ w_10) (by decide) (by decide)) rfl [(.ref a145)] rfl (lenOf pd_4 rfl) rfl (Nat.le_of_eq rfl) (by decide) (by decide) (fun _ _ _ q => D147.iv.keep (sfS (safe_null D147.wm.alike A147 (N147 (Or.inr (hw _ w_23)) (ty := (.array .byte)) (by decide))) sf0) q.2.2.1) d_method_2_72 rfl ?_
    intro v148 T148 h148 L148 q148 D148
    obtain ⟨rfl, N148, K148, X148⟩ := q148
    have NF148 := Fr.app N146 N148
    have S1 := D0.iv.safeExt (Keep.toExt (((((Keep.refl _ []).ext E145).wr W146 (Or.inr (Nat.le_trans (Nat.le_refl _) (Nat.le_of_eq g145.symm)))).ext E147).trans K148 (allS (Or.inr (Nat.le_trans (Nat.le_trans (Nat.le_trans (Nat.le_refl _) E145.1) (Keep.of_wr W146).1) (Nat.le_of_eq g147.symm))) all0))) (Safe.new (Nat.le_trans (Nat.le_trans (Nat.le_trans (Nat.le_refl _) E145.1) (Keep.of_wr W146).1) (Nat.le_of_eq g147.symm)))
    show Go p e below _ (T148.setTop (mkF m 75 #[.val (.int i), .val (.int (1 : Int32)), .val (.ref a145)] [(.ref a147)]))
    exact r_Av D148 hEW hret rfl rfl hlk d_method_2_75 (fun vm1 hs => ⟨.ref a147, rfl, NF148, Keep.toExt (((((Keep.refl _ []).ext E145).wr W146 (Or.inr (Nat.le_trans (Nat.le_refl _) (Nat.le_of_eq g145.symm)))).ext E147).trans K148 (allS (Or.inr (Nat.le_trans (Nat.le_trans (Nat.le_trans (Nat.le_refl _) E145.1) (Keep.of_wr W146).1) (Nat.le_of_eq g147.symm))) all0)), Or.inr ⟨a147, [(own_c 4 i)], rfl, (by rw [own_mk, if_neg z0, hee]; rfl), X148, (Nat.le_trans (Nat.le_trans (Nat.le_trans (Nat.le_refl _) E145.1) (Keep.of_wr W146).1) (Nat.le_of_eq g147.symm)), hs a147 X148.exa.lt S1⟩⟩) (by decide) (by decide)
  · show Go p e below _ (s₁.setTop (mkF m 14 #[.val (.int i), .val (.int (2 : Int32)), .unset] []))
    refine g_iloadN D0 15 d_method_2_14 rfl rfl ?_
    refine g_newP D0 17 (aty := .char) (hw _ w_7) d_method_2_15 (by decide) (cap := 2) (by decide) (by decide) (by decide) (by decide) (fun _ E => D0.iv.ext E) rfl ?_
    intro T149 h149 a149 k149 g149 E149 V149 D149
    have V149' : Arv Z h149 a149 k149 .char (2 : Int32) [(.int (0 : Int32)), (.int (0 : Int32))] (.int (0 : Int32)) := V149.pad (pad_rep [] (.int (0 : Int32)) 2)
    refine g_astoreN D149 18 #[.val (.int i), .val (.int (2 : Int32)), .val (.ref a149)] d_method_2_17 rfl rfl rfl ?_
    refine g_iloadN D149 19 d_method_2_18 rfl rfl ?_
    refine g_ifN D149 22 d_method_2_19 (by decide) rfl ?_
    refine g_aloadN D149 23 d_method_2_22 rfl rfl rfl ?_
    refine g_iconst D149 24 (0 : Int32) d_method_2_23 rfl rfl ?_
    refine g_iloadN D149 25 d_method_2_24 rfl rfl ?_
    refine g_iconst D149 26 (4 : Int32) d_method_2_25 rfl rfl ?_
    refine g_iushr D149 27 d_method_2_26 rfl ?_
    refine g_sipush D149 30 (255 : Int32) d_method_2_27 rfl rfl ?_
    refine g_iand D149 31 d_method_2_30 rfl ?_
    refine g_i2c D149 32 d_method_2_31 rfl ?_
    refine g_castore D149 33 V149' ⟨by decide, by decide⟩ 0 (by decide) (Nat.le_of_ble_eq_true rfl) (fun _ W => D149.iv.wr (Safe.arv D149.wm.alike V149' (by decide)) W) d_method_2_32 rfl ?_
    intro T150 h150 W150 V150 D150
    rw [nar_c (b8_i2c _)] at V150
    replace V150 : Arv Z h150 a149 k149 .char (2 : Int32) [(.int (own_c 4 i)), (.int (0 : Int32))] (.int (0 : Int32)) := V150
    have N150 := Fr.snoc D150.st (Fr.nil n0) (Nat.le_trans Z0 (Nat.le_of_eq g149.symm))
    refine g_iloadN D150 34 d_method_2_33 rfl rfl ?_
    refine g_iconst D150 35 (1 : Int32) d_method_2_34 rfl rfl ?_
    refine g_icmpN D150 38 d_method_2_35 (by decide) rfl ?_
    refine g_aloadN D150 39 d_method_2_38 rfl rfl rfl ?_
    refine g_iconst D150 40 (1 : Int32) d_method_2_39 rfl rfl ?_
    refine g_iloadN D150 41 d_method_2_40 rfl rfl ?_
    refine g_bipush D150 43 (12 : Int32) d_method_2_41 rfl rfl ?_
    refine g_iushr D150 44 d_method_2_43 rfl ?_
    refine g_sipush D150 47 (255 : Int32) d_method_2_44 rfl rfl ?_
    refine g_iand D150 48 d_method_2_47 rfl ?_
    refine g_i2c D150 49 d_method_2_48 rfl ?_
    refine g_castore D150 50 V150 ⟨by decide, by decide⟩ 1 (by decide) (Nat.le_of_ble_eq_true rfl) (fun _ W => D150.iv.wr (Safe.arv D150.wm.alike V150 (by decide)) W) d_method_2_49 rfl ?_
    intro T151 h151 W151 V151 D151
    rw [nar_c (b8_i2c _)] at V151
    replace V151 : Arv Z h151 a149 k149 .char (2 : Int32) [(.int (own_c 4 i)), (.int (own_c 12 i))] (.int (0 : Int32)) := V151
    have N151 := Fr.snoc D151.st N150 (Nat.le_trans Z0 (Nat.le_of_eq g149.symm))
    refine g_iloadN D151 51 d_method_2_50 rfl rfl ?_
    refine g_iconst D151 52 (2 : Int32) d_method_2_51 rfl rfl ?_
    refine g_icmpY D151 67 d_method_2_52 (by decide) (by decide) (by decide) ?_
    refine g_newO D151 70 (hw _ w_8) (hw _ w_9) (hw _ w_10) d_method_2_67 (by decide) (by decide) (fun _ E => D151.iv.ext E) rfl ?_
    intro T152 h152 a152 g152 E152 A152 N152 D152
    refine g_dup D152 71 d_method_2_70 rfl rfl ?_
    refine g_aloadN D152 72 d_method_2_71 rfl rfl rfl ?_
    refine g_callN D152 75 rfl (hw _ w_11) (hw _ w_12) (hw _ w_13) (by decide) ((cN1_2 l Z a0 hw [] a152 a149 k149 zc (own_c 4 i) (own_c 12 i) h152 n0 (Nat.le_trans (Nat.le_trans (Nat.le_trans (Nat.le_trans Z0 E149.1) (Keep.of_wr W150).1) (Keep.of_wr W151).1) E152.1) ((((OLD.ext E149).wr W150 (Nat.le_trans Z0 (Nat.le_of_eq g149.symm))).wr W151 (Nat.le_trans Z0 (Nat.le_of_eq g149.symm))).ext E152) CS hzc A152 (N152 (Or.inr (hw _ w_23)) (ty := (.array .byte)) (by decide)) (N152 (Or.inr (hw _ w_24)) (ty := .byte) (by decide)) (Nat.le_trans (Nat.le_trans (Nat.le_trans (Nat.le_trans Z0 E149.1) (Keep.of_wr W150).1) (Keep.of_wr W151).1) (Nat.le_of_eq g152.symm)) (N152 (Or.inl (hw _ w_48)) (ty := .int) (by decide)) (N152 (Or.inl (hw _ w_50)) (ty := .boolean) (by decide)) (V151.ext E152) (own_cb 4 i) (own_cb 12 i)).back D152 1 (hw _ w_13) (hw _ w_10) (by decide) (by decide)) rfl [(.ref a149)] rfl (lenOf pd_4 rfl) rfl (Nat.le_of_eq rfl) (by decide) (by decide) (fun _ _ _ q => D152.iv.keep (sfS (safe_null D152.wm.alike A152 (N152 (Or.inr (hw _ w_23)) (ty := (.array .byte)) (by decide))) sf0) q.2.2.1) d_method_2_72 rfl ?_
    intro v153 T153 h153 L153 q153 D153
    obtain ⟨rfl, N153, K153, X153⟩ := q153
    have NF153 := Fr.app N151 N153
    have S1 := D0.iv.safeExt (Keep.toExt ((((((Keep.refl _ []).ext E149).wr W150 (Or.inr (Nat.le_trans (Nat.le_refl _) (Nat.le_of_eq g149.symm)))).wr W151 (Or.inr (Nat.le_trans (Nat.le_refl _) (Nat.le_of_eq g149.symm)))).ext E152).trans K153 (allS (Or.inr (Nat.le_trans (Nat.le_trans (Nat.le_trans (Nat.le_trans (Nat.le_refl _) E149.1) (Keep.of_wr W150).1) (Keep.of_wr W151).1) (Nat.le_of_eq g152.symm))) all0))) (Safe.new (Nat.le_trans (Nat.le_trans (Nat.le_trans (Nat.le_trans (Nat.le_refl _) E149.1) (Keep.of_wr W150).1) (Keep.of_wr W151).1) (Nat.le_of_eq g152.symm)))
    show Go p e below _ (T153.setTop (mkF m 75 #[.val (.int i), .val (.int (2 : Int32)), .val (.ref a149)] [(.ref a152)]))
    exact r_Av D153 hEW hret rfl rfl hlk d_method_2_75 (fun vm1 hs => ⟨.ref a152, rfl, NF153, Keep.toExt ((((((Keep.refl _ []).ext E149).wr W150 (Or.inr (Nat.le_trans (Nat.le_refl _) (Nat.le_of_eq g149.symm)))).wr W151 (Or.inr (Nat.le_trans (Nat.le_refl _) (Nat.le_of_eq g149.symm)))).ext E152).trans K153 (allS (Or.inr (Nat.le_trans (Nat.le_trans (Nat.le_trans (Nat.le_trans (Nat.le_refl _) E149.1) (Keep.of_wr W150).1) (Keep.of_wr W151).1) (Nat.le_of_eq g152.symm))) all0)), Or.inr ⟨a152, [(own_c 4 i), (own_c 12 i)], rfl, (by rw [own_mk, if_neg z0, hee]; rfl), X153, (Nat.le_trans (Nat.le_trans (Nat.le_trans (Nat.le_trans (Nat.le_refl _) E149.1) (Keep.of_wr W150).1) (Keep.of_wr W151).1) (Nat.le_of_eq g152.symm)), hs a152 X153.exa.lt S1⟩⟩) (by decide) (by decide)
  · show Go p e below _ (s₁.setTop (mkF m 14 #[.val (.int i), .val (.int (3 : Int32)), .unset] []))
    refine g_iloadN D0 15 d_method_2_14 rfl rfl ?_
    refine g_newP D0 17 (aty := .char) (hw _ w_7) d_method_2_15 (by decide) (cap := 3) (by decide) (by decide) (by decide) (by decide) (fun _ E => D0.iv.ext E) rfl ?_
    intro T154 h154 a154 k154 g154 E154 V154 D154
    have V154' : Arv Z h154 a154 k154 .char (3 : Int32) [(.int (0 : Int32)), (.int (0 : Int32)), (.int (0 : Int32))] (.int (0 : Int32)) := V154.pad (pad_rep [] (.int (0 : Int32)) 3)
    refine g_astoreN D154 18 #[.val (.int i), .val (.int (3 : Int32)), .val (.ref a154)] d_method_2_17 rfl rfl rfl ?_
    refine g_iloadN D154 19 d_method_2_18 rfl rfl ?_
    refine g_ifN D154 22 d_method_2_19 (by decide) rfl ?_
    refine g_aloadN D154 23 d_method_2_22 rfl rfl rfl ?_
    refine g_iconst D154 24 (0 : Int32) d_method_2_23 rfl rfl ?_
    refine g_iloadN D154 25 d_method_2_24 rfl rfl ?_
    refine g_iconst D154 26 (4 : Int32) d_method_2_25 rfl rfl ?_
    refine g_iushr D154 27 d_method_2_26 rfl ?_
    refine g_sipush D154 30 (255 : Int32) d_method_2_27 rfl rfl ?_
    refine g_iand D154 31 d_method_2_30 rfl ?_
    refine g_i2c D154 32 d_method_2_31 rfl ?_
    refine g_castore D154 33 V154' ⟨by decide, by decide⟩ 0 (by decide) (Nat.le_of_ble_eq_true rfl) (fun _ W => D154.iv.wr (Safe.arv D154.wm.alike V154' (by decide)) W) d_method_2_32 rfl ?_
    intro T155 h155 W155 V155 D155
    rw [nar_c (b8_i2c _)] at V155
    replace V155 : Arv Z h155 a154 k154 .char (3 : Int32) [(.int (own_c 4 i)), (.int (0 : Int32)), (.int (0 : Int32))] (.int (0 : Int32)) := V155
    have N155 := Fr.snoc D155.st (Fr.nil n0) (Nat.le_trans Z0 (Nat.le_of_eq g154.symm))
    refine g_iloadN D155 34 d_method_2_33 rfl rfl ?_
    refine g_iconst D155 35 (1 : Int32) d_method_2_34 rfl rfl ?_
    refine g_icmpN D155 38 d_method_2_35 (by decide) rfl ?_
    refine g_aloadN D155 39 d_method_2_38 rfl rfl rfl ?_
    refine g_iconst D155 40 (1 : Int32) d_method_2_39 rfl rfl ?_
    refine g_iloadN D155 41 d_method_2_40 rfl rfl ?_
    refine g_bipush D155 43 (12 : Int32) d_method_2_41 rfl rfl ?_
    refine g_iushr D155 44 d_method_2_43 rfl ?_
    refine g_sipush D155 47 (255 : Int32) d_method_2_44 rfl rfl ?_
    refine g_iand D155 48 d_method_2_47 rfl ?_
    refine g_i2c D155 49 d_method_2_48 rfl ?_
    refine g_castore D155 50 V155 ⟨by decide, by decide⟩ 1 (by decide) (Nat.le_of_ble_eq_true rfl) (fun _ W => D155.iv.wr (Safe.arv D155.wm.alike V155 (by decide)) W) d_method_2_49 rfl ?_
    intro T156 h156 W156 V156 D156
    rw [nar_c (b8_i2c _)] at V156
    replace V156 : Arv Z h156 a154 k154 .char (3 : Int32) [(.int (own_c 4 i)), (.int (own_c 12 i)), (.int (0 : Int32))] (.int (0 : Int32)) := V156
    have N156 := Fr.snoc D156.st N155 (Nat.le_trans Z0 (Nat.le_of_eq g154.symm))
    refine g_iloadN D156 51 d_method_2_50 rfl rfl ?_
    refine g_iconst D156 52 (2 : Int32) d_method_2_51 rfl rfl ?_
    refine g_icmpN D156 55 d_method_2_52 (by decide) rfl ?_
    refine g_aloadN D156 56 d_method_2_55 rfl rfl rfl ?_
    refine g_iconst D156 57 (2 : Int32) d_method_2_56 rfl rfl ?_
    refine g_iloadN D156 58 d_method_2_57 rfl rfl ?_
    refine g_bipush D156 60 (20 : Int32) d_method_2_58 rfl rfl ?_
    refine g_iushr D156 61 d_method_2_60 rfl ?_
    refine g_sipush D156 64 (255 : Int32) d_method_2_61 rfl rfl ?_
    refine g_iand D156 65 d_method_2_64 rfl ?_
    refine g_i2c D156 66 d_method_2_65 rfl ?_
    refine g_castore D156 67 V156 ⟨by decide, by decide⟩ 2 (by decide) (Nat.le_of_ble_eq_true rfl) (fun _ W => D156.iv.wr (Safe.arv D156.wm.alike V156 (by decide)) W) d_method_2_66 rfl ?_
    intro T157 h157 W157 V157 D157
    rw [nar_c (b8_i2c _)] at V157
    replace V157 : Arv Z h157 a154 k154 .char (3 : Int32) [(.int (own_c 4 i)), (.int (own_c 12 i)), (.int (own_c 20 i))] (.int (0 : Int32)) := V157
    have N157 := Fr.snoc D157.st N156 (Nat.le_trans Z0 (Nat.le_of_eq g154.symm))
    refine g_newO D157 70 (hw _ w_8) (hw _ w_9) (hw _ w_10) d_method_2_67 (by decide) (by decide) (fun _ E => D157.iv.ext E) rfl ?_
    intro T158 h158 a158 g158 E158 A158 N158 D158
    refine g_dup D158 71 d_method_2_70 rfl rfl ?_
    refine g_aloadN D158 72 d_method_2_71 rfl rfl rfl ?_
    refine g_callN D158 75 rfl (hw _ w_11) (hw _ w_12) (hw _ w_13) (by decide) ((cN1_3 l Z a0 hw [] a158 a154 k154 zc (own_c 4 i) (own_c 12 i) (own_c 20 i) h158 n0 (Nat.le_trans (Nat.le_trans (Nat.le_trans (Nat.le_trans (Nat.le_trans Z0 E154.1) (Keep.of_wr W155).1) (Keep.of_wr W156).1) (Keep.of_wr W157).1) E158.1) (((((OLD.ext E154).wr W155 (Nat.le_trans Z0 (Nat.le_of_eq g154.symm))).wr W156 (Nat.le_trans Z0 (Nat.le_of_eq g154.symm))).wr W157 (Nat.le_trans Z0 (Nat.le_of_eq g154.symm))).ext E158) CS hzc A158 (N158 (Or.inr (hw _ w_23)) (ty := (.array .byte)) (by decide)) (N158 (Or.inr (hw _ w_24)) (ty := .byte) (by decide)) (Nat.le_trans (Nat.le_trans (Nat.le_trans (Nat.le_trans (Nat.le_trans Z0 E154.1) (Keep.of_wr W155).1) (Keep.of_wr W156).1) (Keep.of_wr W157).1) (Nat.le_of_eq g158.symm)) (N158 (Or.inl (hw _ w_48)) (ty := .int) (by decide)) (N158 (Or.inl (hw _ w_50)) (ty := .boolean) (by decide)) (V157.ext E158) (own_cb 4 i) (own_cb 12 i) (own_cb 20 i)).back D158 1 (hw _ w_13) (hw _ w_10) (by decide) (by decide)) rfl [(.ref a154)] rfl (lenOf pd_4 rfl) rfl (Nat.le_of_eq rfl) (by decide) (by decide) (fun _ _ _ q => D158.iv.keep (sfS (safe_null D158.wm.alike A158 (N158 (Or.inr (hw _ w_23)) (ty := (.array .byte)) (by decide))) sf0) q.2.2.1) d_method_2_72 rfl ?_
    intro v159 T159 h159 L159 q159 D159
    obtain ⟨rfl, N159, K159, X159⟩ := q159
    have NF159 := Fr.app N157 N159
    have S1 := D0.iv.safeExt (Keep.toExt (((((((Keep.refl _ []).ext E154).wr W155 (Or.inr (Nat.le_trans (Nat.le_refl _) (Nat.le_of_eq g154.symm)))).wr W156 (Or.inr (Nat.le_trans (Nat.le_refl _) (Nat.le_of_eq g154.symm)))).wr W157 (Or.inr (Nat.le_trans (Nat.le_refl _) (Nat.le_of_eq g154.symm)))).ext E158).trans K159 (allS (Or.inr (Nat.le_trans (Nat.le_trans (Nat.le_trans (Nat.le_trans (Nat.le_trans (Nat.le_refl _) E154.1) (Keep.of_wr W155).1) (Keep.of_wr W156).1) (Keep.of_wr W157).1) (Nat.le_of_eq g158.symm))) all0))) (Safe.new (Nat.le_trans (Nat.le_trans (Nat.le_trans (Nat.le_trans (Nat.le_trans (Nat.le_refl _) E154.1) (Keep.of_wr W155).1) (Keep.of_wr W156).1) (Keep.of_wr W157).1) (Nat.le_of_eq g158.symm)))
    show Go p e below _ (T159.setTop (mkF m 75 #[.val (.int i), .val (.int (3 : Int32)), .val (.ref a154)] [(.ref a158)]))
    exact r_Av D159 hEW hret rfl rfl hlk d_method_2_75 (fun vm1 hs => ⟨.ref a158, rfl, NF159, Keep.toExt (((((((Keep.refl _ []).ext E154).wr W155 (Or.inr (Nat.le_trans (Nat.le_refl _) (Nat.le_of_eq g154.symm)))).wr W156 (Or.inr (Nat.le_trans (Nat.le_refl _) (Nat.le_of_eq g154.symm)))).wr W157 (Or.inr (Nat.le_trans (Nat.le_refl _) (Nat.le_of_eq g154.symm)))).ext E158).trans K159 (allS (Or.inr (Nat.le_trans (Nat.le_trans (Nat.le_trans (Nat.le_trans (Nat.le_trans (Nat.le_refl _) E154.1) (Keep.of_wr W155).1) (Keep.of_wr W156).1) (Keep.of_wr W157).1) (Nat.le_of_eq g158.symm))) all0)), Or.inr ⟨a158, [(own_c 4 i), (own_c 12 i), (own_c 20 i)], rfl, (by rw [own_mk, if_neg z0, hee]; rfl), X159, (Nat.le_trans (Nat.le_trans (Nat.le_trans (Nat.le_trans (Nat.le_trans (Nat.le_refl _) E154.1) (Keep.of_wr W155).1) (Keep.of_wr W156).1) (Keep.of_wr W157).1) (Nat.le_of_eq g158.symm)), hs a158 X159.exa.lt S1⟩⟩) (by decide) (by decide)
set_option maxRecDepth 65536 in
set_option maxHeartbeats 40000000 in
theorem cIL_0 (l : Launch) (Z : State) (a0 : Array Value) (hw : ∀ d ∈ tables_1, d.before a0 Z = true) (ws : List Jvm.Cond) (x : Addr) (zc : Int32) (h0 : Heap) (n0 : Nat) (Z0 : n0 ≤ h0.size) (OLD : Old Z n0 h0) (CS : Sta Z Z.heap "java/lang/String" "COMPACT_STRINGS" "Z" (.int zc)) (hzc : ¬ zc = 0) (F_c : Fld Z h0 x "java/lang/String" "coder" "B" (.int (0 : Int32))) :
    Con l (⟨"java/lang/String", "isLatin1", "()Z"⟩ : MethodName) jdk_42_method_154_code 1 (some .boolean) ws ({ frames := 0, cells := 0, slots := 0, locals := 0 } : Room) Z #[(.ref x)] h0 (fun v h L => v = some (.int (1 : Int32)) ∧ L = [] ∧ h = h0) 0 0 := by
  refine enter (plainFor_of_name pn_1) ?_
  intro p e s m below meth c s₁ hnm hret hlk D0
  rw [ef_cIL_0 m x]
  refine g_getS D0 3 (hw _ w_56) Via.refl (CS.ext OLD.2) d_jdk_42m154_0 rfl ?_
  intro T160 D160
  refine g_ifN D160 6 d_jdk_42m154_3 (feq hzc).1 rfl ?_
  refine g_aloadN D160 7 d_jdk_42m154_6 rfl rfl rfl ?_
  refine g_getF D160 10 (hw _ w_28) Via.refl F_c d_jdk_42m154_7 rfl ?_
  intro T161 D161
  refine g_ifN D161 13 d_jdk_42m154_10 (by decide) rfl ?_
  refine g_iconst D161 14 (1 : Int32) d_jdk_42m154_13 rfl rfl ?_
  refine g_goto D161 18 d_jdk_42m154_14 (by decide) (by decide) ?_
  exact r_N D161 hret (by simp) hlk d_jdk_42m154_18 ⟨own_r1, rfl, rfl⟩ (by decide) (by decide)
set_option maxRecDepth 65536 in
set_option maxHeartbeats 40000000 in
theorem cIL_1 (l : Launch) (Z : State) (a0 : Array Value) (hw : ∀ d ∈ tables_1, d.before a0 Z = true) (ws : List Jvm.Cond) (x : Addr) (zc : Int32) (h0 : Heap) (n0 : Nat) (Z0 : n0 ≤ h0.size) (OLD : Old Z n0 h0) (CS : Sta Z Z.heap "java/lang/String" "COMPACT_STRINGS" "Z" (.int zc)) (hzc : ¬ zc = 0) (F_c : Fld Z h0 x "java/lang/String" "coder" "B" (.int (1 : Int32))) :
    Con l (⟨"java/lang/String", "isLatin1", "()Z"⟩ : MethodName) jdk_42_method_154_code 1 (some .boolean) ws ({ frames := 0, cells := 0, slots := 0, locals := 0 } : Room) Z #[(.ref x)] h0 (fun v h L => v = some (.int (0 : Int32)) ∧ L = [] ∧ h = h0) 0 0 := by
  refine enter (plainFor_of_name pn_1) ?_
  intro p e s m below meth c s₁ hnm hret hlk D0
  rw [ef_cIL_1 m x]
  refine g_getS D0 3 (hw _ w_56) Via.refl (CS.ext OLD.2) d_jdk_42m154_0 rfl ?_
  intro T162 D162
  refine g_ifN D162 6 d_jdk_42m154_3 (feq hzc).1 rfl ?_
  refine g_aloadN D162 7 d_jdk_42m154_6 rfl rfl rfl ?_
  refine g_getF D162 10 (hw _ w_28) Via.refl F_c d_jdk_42m154_7 rfl ?_
  intro T163 D163
  refine g_ifY D163 17 d_jdk_42m154_10 (by decide) (by decide) (by decide) ?_
  refine g_iconst D163 18 (0 : Int32) d_jdk_42m154_17 rfl rfl ?_
  exact r_N D163 hret (by simp) hlk d_jdk_42m154_18 ⟨(by decide : some (Value.int (nar .boolean (0 : Int32))) = some (.int 0)), rfl, rfl⟩ (by decide) (by decide)
set_option maxRecDepth 65536 in
set_option maxHeartbeats 40000000 in
theorem cLH_0 (l : Launch) (Z : State) (a0 : Array Value) (hw : ∀ d ∈ tables_1, d.before a0 Z = true) (ws : List Jvm.Cond) (t : Addr) (kb : ClassId)  (h0 : Heap) (n0 : Nat) (Z0 : n0 ≤ h0.size) (V_t : Arv Z h0 t kb .byte (0 : Int32) [] (.int (0 : Int32))) :
    Con l (⟨"java/lang/StringLatin1", "hashCode", "([B)I"⟩ : MethodName) jdk_43_method_21_code 1 (some .int) ws ({ frames := 2, cells := 0, slots := 0, locals := 33 } : Room) Z #[(.ref t)] h0 (fun v h L => (∃ r, v = some (.int r)) ∧ L = [] ∧ h = h0) 0 0 := by
  refine enter (plainFor_of_name pn_3) ?_
  intro p e s m below meth c s₁ hnm hret hlk D0
  rw [ef_cLH_0 m t]
  refine g_aloadN D0 1 d_jdk_43m21_0 rfl rfl rfl ?_
  refine g_alen D0 2 V_t d_jdk_43m21_1 rfl ?_
  refine g_lswHit D0 28 (a := 0) (o := 26) d_jdk_43m21_2 (by decide) (by decide) (by decide) (by decide) ?_
  refine g_iconst D0 29 (0 : Int32) d_jdk_43m21_28 rfl rfl ?_
  refine g_goto D0 51 d_jdk_43m21_29 (by decide) (by decide) ?_
  exact r_I D0 hret hlk d_jdk_43m21_51 ⟨⟨_, rfl⟩, rfl, rfl⟩ (by decide) (by decide)
def Q_cHC_0 (Z : State) (x t : Addr) (kb : ClassId) (zc : Int32)  (h0 : Heap) (n0 : Nat) : Option Value → Heap → List Loc → Prop := (fun v h L => (∃ r, v = some (.int r)) ∧ Fr n0 L ∧ Keep h0 h [x] ∧ LS Z h x [])
set_option maxRecDepth 65536 in
set_option maxHeartbeats 40000000 in
theorem cHC_0 (l : Launch) (Z : State) (a0 : Array Value) (hw : ∀ d ∈ tables_1, d.before a0 Z = true) (ws : List Jvm.Cond) (x t : Addr) (kb : ClassId) (zc : Int32)  (h0 : Heap) (n0 : Nat) (Z0 : n0 ≤ h0.size) (OLD : Old Z n0 h0) (CS : Sta Z Z.heap "java/lang/String" "COMPACT_STRINGS" "Z" (.int zc)) (hzc : ¬ zc = 0) (V_t : Arv Z h0 t kb .byte (0 : Int32) [] (.int (0 : Int32))) (E_x : Exa Z h0 x "java/lang/String") (F_v : Fld Z h0 x "java/lang/String" "value" "[B" (.ref t)) (F_c : Fld Z h0 x "java/lang/String" "coder" "B" (.int (0 : Int32))) (F_h : Fld Z h0 x "java/lang/String" "hash" "I" (.int (0 : Int32))) (F_z : Fld Z h0 x "java/lang/String" "hashIsZero" "Z" (.int (0 : Int32))) (gx : n0 ≤ x)  :
    Con l (⟨"java/lang/String", "hashCode", "()I"⟩ : MethodName) jdk_42_method_78_code 2 (some .int) ws ({ frames := 3, cells := 0, slots := 0, locals := 45 } : Room) Z #[(.ref x)] h0 (Q_cHC_0 Z x t kb zc h0 n0) 0 0 := by
  refine enter (plainFor_of_name pn_1) ?_
  intro p e s m below meth c s₁ hnm hret hlk D0
  rw [ef_cHC_0 m x]
  refine g_aloadN D0 1 d_jdk_42m78_0 rfl rfl rfl ?_
  refine g_getF D0 4 (hw _ w_47) Via.refl F_h d_jdk_42m78_1 rfl ?_
  intro T164 D164
  refine g_istoreN D164 5 #[.val (.ref x), .val (.int (0 : Int32))] d_jdk_42m78_4 rfl rfl ?_
  refine g_iloadN D164 6 d_jdk_42m78_5 rfl rfl ?_
  refine g_ifN D164 9 d_jdk_42m78_6 (by decide) rfl ?_
  refine g_aloadN D164 10 d_jdk_42m78_9 rfl rfl rfl ?_
  refine g_getF D164 13 (hw _ w_49) Via.refl F_z d_jdk_42m78_10 rfl ?_
  intro T165 D165
  refine g_ifN D165 16 d_jdk_42m78_13 (by decide) rfl ?_
  refine g_aloadN D165 17 d_jdk_42m78_16 rfl rfl rfl ?_
  refine g_callVp D165 20 (hw _ w_51) (hw _ w_52) (notFace_of_selects (args := #[]) (mvT D165.wm (hw _ w_54))) (hw _ w_54) (hw _ w_53) (by decide) ((cIL_0 l Z a0 hw [] x zc h0 n0 Z0 OLD CS hzc F_c).back D165 0 (hw _ w_55) (hw _ w_10) (by decide) (by decide)) E_x rfl [] rfl (lenOf pd_5 rfl) rfl (Nat.le_of_eq rfl) (by decide) (by decide) d_jdk_42m78_17 rfl ?_
  intro v166 T166 q166 D166
  subst q166
  show Go p e below _ (T166.setTop (mkF m 20 #[.val (.ref x), .val (.int (0 : Int32))] [(.int (1 : Int32))]))
  refine g_ifN D166 23 d_jdk_42m78_20 (by decide) rfl ?_
  refine g_aloadN D166 24 d_jdk_42m78_23 rfl rfl rfl ?_
  refine g_getF D166 27 (hw _ w_27) Via.refl F_v d_jdk_42m78_24 rfl ?_
  intro T167 D167
  refine g_callSp D167 30 (hw _ w_57) (hw _ w_58) (hw _ w_59) (hw _ w_60) (by decide) ((cLH_0 l Z a0 hw [] t kb  h0 n0 Z0 V_t).back D167 0 (hw _ w_60) (hw _ w_59) (by decide) (by decide)) rfl [(.ref t)] rfl (lenOf pd_6 rfl) rfl (Nat.le_of_eq rfl) (by decide) (by decide) d_jdk_42m78_27 rfl ?_
  intro v168 T168 q168 D168
  obtain ⟨r168, rfl⟩ := q168
  show Go p e below _ (T168.setTop (mkF m 30 #[.val (.ref x), .val (.int (0 : Int32))] [(.int r168)]))
  refine g_goto D168 40 d_jdk_42m78_30 (by decide) (by decide) ?_
  refine g_istoreN D168 41 #[.val (.ref x), .val (.int r168)] d_jdk_42m78_40 rfl rfl ?_
  refine g_iloadN D168 42 d_jdk_42m78_41 rfl rfl ?_
  by_cases z0 : r168 = (0 : Int32)
  · refine g_ifN D168 45 d_jdk_42m78_42 (teq z0).2 rfl ?_
    refine g_aloadN D168 46 d_jdk_42m78_45 rfl rfl rfl ?_
    refine g_iconst D168 47 (1 : Int32) d_jdk_42m78_46 rfl rfl ?_
    refine g_putF D168 50 (hw _ w_49) Via.refl F_z E_x (Or.inl (hw _ w_50)) (hw _ w_9) (ty := .boolean) (by decide) rfl rfl (fun _ _ => trivial) d_jdk_42m78_47 rfl ?_
    intro T169 h169 W169 D169
    have N169 := Fr.snoc D169.st (Fr.nil n0) gx
    have F169 := F_z.same W169
    refine g_goto D169 58 d_jdk_42m78_50 (by decide) (by decide) ?_
    refine g_iloadN D169 59 d_jdk_42m78_58 rfl rfl ?_
    exact r_I D169 hret hlk d_jdk_42m78_59 ⟨⟨_, rfl⟩, N169, ((Keep.refl _ [x]).wr W169 (Or.inl (List.mem_of_getElem? (i := 0) rfl))), t, kb, (E_x.wr W169), (F_c.other W169 (Or.inr (slot_ne (Or.inr (hw _ w_24)) (Or.inl (hw _ w_50)) (by decide) (t := .byte) (t' := .boolean) (by decide) (by decide)))), (F_v.other W169 (Or.inr (slot_ne (Or.inr (hw _ w_23)) (Or.inl (hw _ w_50)) (by decide) (t := (.array .byte)) (t' := .boolean) (by decide) (by decide)))), (V_t.other W169 (Ne.symm (Exa.neArv E_x V_t (hw _ w_9)))), b8_nil, Nat.le_of_ble_eq_true rfl⟩ (by decide) (by decide)
  refine g_ifY D168 53 d_jdk_42m78_42 (feq z0).2 (by decide) (by decide) ?_
  refine g_aloadN D168 54 d_jdk_42m78_53 rfl rfl rfl ?_
  refine g_iloadN D168 55 d_jdk_42m78_54 rfl rfl ?_
  refine g_putF D168 58 (hw _ w_47) Via.refl F_h E_x (Or.inl (hw _ w_48)) (hw _ w_9) (ty := .int) (by decide) rfl rfl (fun _ _ => trivial) d_jdk_42m78_55 rfl ?_
  intro T170 h170 W170 D170
  have N170 := Fr.snoc D170.st (Fr.nil n0) gx
  have F170 := F_h.same W170
  refine g_iloadN D170 59 d_jdk_42m78_58 rfl rfl ?_
  exact r_I D170 hret hlk d_jdk_42m78_59 ⟨⟨_, rfl⟩, N170, ((Keep.refl _ [x]).wr W170 (Or.inl (List.mem_of_getElem? (i := 0) rfl))), t, kb, (E_x.wr W170), (F_c.other W170 (Or.inr (slot_ne (Or.inr (hw _ w_24)) (Or.inl (hw _ w_48)) (by decide) (t := .byte) (t' := .int) (by decide) (by decide)))), (F_v.other W170 (Or.inr (slot_ne (Or.inr (hw _ w_23)) (Or.inl (hw _ w_48)) (by decide) (t := (.array .byte)) (t' := .int) (by decide) (by decide)))), (V_t.other W170 (Ne.symm (Exa.neArv E_x V_t (hw _ w_9)))), b8_nil, Nat.le_of_ble_eq_true rfl⟩ (by decide) (by decide)
set_option maxRecDepth 65536 in
set_option maxHeartbeats 40000000 in
theorem cLH_1 (l : Launch) (Z : State) (a0 : Array Value) (hw : ∀ d ∈ tables_1, d.before a0 Z = true) (ws : List Jvm.Cond) (t : Addr) (kb : ClassId) (c0 : Int32) (h0 : Heap) (n0 : Nat) (Z0 : n0 ≤ h0.size) (V_t : Arv Z h0 t kb .byte (1 : Int32) [(.int (StrChars.lo8 c0))] (.int (0 : Int32))) :
    Con l (⟨"java/lang/StringLatin1", "hashCode", "([B)I"⟩ : MethodName) jdk_43_method_21_code 1 (some .int) ws ({ frames := 2, cells := 0, slots := 0, locals := 33 } : Room) Z #[(.ref t)] h0 (fun v h L => (∃ r, v = some (.int r)) ∧ L = [] ∧ h = h0) 0 0 := by
  refine enter (plainFor_of_name pn_3) ?_
  intro p e s m below meth c s₁ hnm hret hlk D0
  rw [ef_cLH_1 m t]
  refine g_aloadN D0 1 d_jdk_43m21_0 rfl rfl rfl ?_
  refine g_alen D0 2 V_t d_jdk_43m21_1 rfl ?_
  refine g_lswHit D0 32 (a := 1) (o := 30) d_jdk_43m21_2 (by decide) (by decide) (by decide) (by decide) ?_
  refine g_aloadN D0 33 d_jdk_43m21_32 rfl rfl rfl ?_
  refine g_iconst D0 34 (0 : Int32) d_jdk_43m21_33 rfl rfl ?_
  refine g_baload D0 35 V_t (v := (.int (StrChars.lo8 c0))) ⟨by decide, by decide⟩ rfl d_jdk_43m21_34 rfl ?_
  refine g_sipush D0 38 (255 : Int32) d_jdk_43m21_35 rfl rfl ?_
  refine g_iand D0 39 d_jdk_43m21_38 rfl ?_
  refine g_goto D0 51 d_jdk_43m21_39 (by decide) (by decide) ?_
  exact r_I D0 hret hlk d_jdk_43m21_51 ⟨⟨_, rfl⟩, rfl, rfl⟩ (by decide) (by decide)
def Q_cHC_1 (Z : State) (x t : Addr) (kb : ClassId) (zc : Int32) (c0 : Int32) (h0 : Heap) (n0 : Nat) : Option Value → Heap → List Loc → Prop := (fun v h L => (∃ r, v = some (.int r)) ∧ Fr n0 L ∧ Keep h0 h [x] ∧ LS Z h x [c0])
set_option maxRecDepth 65536 in
set_option maxHeartbeats 40000000 in
theorem cHC_1 (l : Launch) (Z : State) (a0 : Array Value) (hw : ∀ d ∈ tables_1, d.before a0 Z = true) (ws : List Jvm.Cond) (x t : Addr) (kb : ClassId) (zc : Int32) (c0 : Int32) (h0 : Heap) (n0 : Nat) (Z0 : n0 ≤ h0.size) (OLD : Old Z n0 h0) (CS : Sta Z Z.heap "java/lang/String" "COMPACT_STRINGS" "Z" (.int zc)) (hzc : ¬ zc = 0) (V_t : Arv Z h0 t kb .byte (1 : Int32) [(.int (StrChars.lo8 c0))] (.int (0 : Int32))) (E_x : Exa Z h0 x "java/lang/String") (F_v : Fld Z h0 x "java/lang/String" "value" "[B" (.ref t)) (F_c : Fld Z h0 x "java/lang/String" "coder" "B" (.int (0 : Int32))) (F_h : Fld Z h0 x "java/lang/String" "hash" "I" (.int (0 : Int32))) (F_z : Fld Z h0 x "java/lang/String" "hashIsZero" "Z" (.int (0 : Int32))) (gx : n0 ≤ x) (H0 : B8 c0) :
    Con l (⟨"java/lang/String", "hashCode", "()I"⟩ : MethodName) jdk_42_method_78_code 2 (some .int) ws ({ frames := 3, cells := 0, slots := 0, locals := 45 } : Room) Z #[(.ref x)] h0 (Q_cHC_1 Z x t kb zc c0 h0 n0) 0 0 := by
  refine enter (plainFor_of_name pn_1) ?_
  intro p e s m below meth c s₁ hnm hret hlk D0
  rw [ef_cHC_1 m x]
  refine g_aloadN D0 1 d_jdk_42m78_0 rfl rfl rfl ?_
  refine g_getF D0 4 (hw _ w_47) Via.refl F_h d_jdk_42m78_1 rfl ?_
  intro T171 D171
  refine g_istoreN D171 5 #[.val (.ref x), .val (.int (0 : Int32))] d_jdk_42m78_4 rfl rfl ?_
  refine g_iloadN D171 6 d_jdk_42m78_5 rfl rfl ?_
  refine g_ifN D171 9 d_jdk_42m78_6 (by decide) rfl ?_
  refine g_aloadN D171 10 d_jdk_42m78_9 rfl rfl rfl ?_
  refine g_getF D171 13 (hw _ w_49) Via.refl F_z d_jdk_42m78_10 rfl ?_
  intro T172 D172
  refine g_ifN D172 16 d_jdk_42m78_13 (by decide) rfl ?_
  refine g_aloadN D172 17 d_jdk_42m78_16 rfl rfl rfl ?_
  refine g_callVp D172 20 (hw _ w_51) (hw _ w_52) (notFace_of_selects (args := #[]) (mvT D172.wm (hw _ w_54))) (hw _ w_54) (hw _ w_53) (by decide) ((cIL_0 l Z a0 hw [] x zc h0 n0 Z0 OLD CS hzc F_c).back D172 0 (hw _ w_55) (hw _ w_10) (by decide) (by decide)) E_x rfl [] rfl (lenOf pd_5 rfl) rfl (Nat.le_of_eq rfl) (by decide) (by decide) d_jdk_42m78_17 rfl ?_
  intro v173 T173 q173 D173
  subst q173
  show Go p e below _ (T173.setTop (mkF m 20 #[.val (.ref x), .val (.int (0 : Int32))] [(.int (1 : Int32))]))
  refine g_ifN D173 23 d_jdk_42m78_20 (by decide) rfl ?_
  refine g_aloadN D173 24 d_jdk_42m78_23 rfl rfl rfl ?_
  refine g_getF D173 27 (hw _ w_27) Via.refl F_v d_jdk_42m78_24 rfl ?_
  intro T174 D174
  refine g_callSp D174 30 (hw _ w_57) (hw _ w_58) (hw _ w_59) (hw _ w_60) (by decide) ((cLH_1 l Z a0 hw [] t kb c0 h0 n0 Z0 V_t).back D174 0 (hw _ w_60) (hw _ w_59) (by decide) (by decide)) rfl [(.ref t)] rfl (lenOf pd_6 rfl) rfl (Nat.le_of_eq rfl) (by decide) (by decide) d_jdk_42m78_27 rfl ?_
  intro v175 T175 q175 D175
  obtain ⟨r175, rfl⟩ := q175
  show Go p e below _ (T175.setTop (mkF m 30 #[.val (.ref x), .val (.int (0 : Int32))] [(.int r175)]))
  refine g_goto D175 40 d_jdk_42m78_30 (by decide) (by decide) ?_
  refine g_istoreN D175 41 #[.val (.ref x), .val (.int r175)] d_jdk_42m78_40 rfl rfl ?_
  refine g_iloadN D175 42 d_jdk_42m78_41 rfl rfl ?_
  by_cases z0 : r175 = (0 : Int32)
  · refine g_ifN D175 45 d_jdk_42m78_42 (teq z0).2 rfl ?_
    refine g_aloadN D175 46 d_jdk_42m78_45 rfl rfl rfl ?_
    refine g_iconst D175 47 (1 : Int32) d_jdk_42m78_46 rfl rfl ?_
    refine g_putF D175 50 (hw _ w_49) Via.refl F_z E_x (Or.inl (hw _ w_50)) (hw _ w_9) (ty := .boolean) (by decide) rfl rfl (fun _ _ => trivial) d_jdk_42m78_47 rfl ?_
    intro T176 h176 W176 D176
    have N176 := Fr.snoc D176.st (Fr.nil n0) gx
    have F176 := F_z.same W176
    refine g_goto D176 58 d_jdk_42m78_50 (by decide) (by decide) ?_
    refine g_iloadN D176 59 d_jdk_42m78_58 rfl rfl ?_
    exact r_I D176 hret hlk d_jdk_42m78_59 ⟨⟨_, rfl⟩, N176, ((Keep.refl _ [x]).wr W176 (Or.inl (List.mem_of_getElem? (i := 0) rfl))), t, kb, (E_x.wr W176), (F_c.other W176 (Or.inr (slot_ne (Or.inr (hw _ w_24)) (Or.inl (hw _ w_50)) (by decide) (t := .byte) (t' := .boolean) (by decide) (by decide)))), (F_v.other W176 (Or.inr (slot_ne (Or.inr (hw _ w_23)) (Or.inl (hw _ w_50)) (by decide) (t := (.array .byte)) (t' := .boolean) (by decide) (by decide)))), (V_t.other W176 (Ne.symm (Exa.neArv E_x V_t (hw _ w_9)))), (b8_cons H0 b8_nil), Nat.le_of_ble_eq_true rfl⟩ (by decide) (by decide)
  refine g_ifY D175 53 d_jdk_42m78_42 (feq z0).2 (by decide) (by decide) ?_
  refine g_aloadN D175 54 d_jdk_42m78_53 rfl rfl rfl ?_
  refine g_iloadN D175 55 d_jdk_42m78_54 rfl rfl ?_
  refine g_putF D175 58 (hw _ w_47) Via.refl F_h E_x (Or.inl (hw _ w_48)) (hw _ w_9) (ty := .int) (by decide) rfl rfl (fun _ _ => trivial) d_jdk_42m78_55 rfl ?_
  intro T177 h177 W177 D177
  have N177 := Fr.snoc D177.st (Fr.nil n0) gx
  have F177 := F_h.same W177
  refine g_iloadN D177 59 d_jdk_42m78_58 rfl rfl ?_
  exact r_I D177 hret hlk d_jdk_42m78_59 ⟨⟨_, rfl⟩, N177, ((Keep.refl _ [x]).wr W177 (Or.inl (List.mem_of_getElem? (i := 0) rfl))), t, kb, (E_x.wr W177), (F_c.other W177 (Or.inr (slot_ne (Or.inr (hw _ w_24)) (Or.inl (hw _ w_48)) (by decide) (t := .byte) (t' := .int) (by decide) (by decide)))), (F_v.other W177 (Or.inr (slot_ne (Or.inr (hw _ w_23)) (Or.inl (hw _ w_48)) (by decide) (t := (.array .byte)) (t' := .int) (by decide) (by decide)))), (V_t.other W177 (Ne.symm (Exa.neArv E_x V_t (hw _ w_9)))), (b8_cons H0 b8_nil), Nat.le_of_ble_eq_true rfl⟩ (by decide) (by decide)
set_option maxRecDepth 65536 in
set_option maxHeartbeats 40000000 in
theorem cSg_2 (l : Launch) (Z : State) (a0 : Array Value) (hw : ∀ d ∈ tables_1, d.before a0 Z = true) (ws : List Jvm.Cond) (t : Addr) (kb : ClassId) (c0 c1 : Int32) (h0 : Heap) (n0 : Nat) (Z0 : n0 ≤ h0.size) (V_t : Arv Z h0 t kb .byte (2 : Int32) [(.int (StrChars.lo8 c0)), (.int (StrChars.lo8 c1))] (.int (0 : Int32))) :
    Con l (⟨"jdk/internal/util/ArraysSupport", "signedHashCode", "(I[BII)I"⟩ : MethodName) jdk_48_method_5_code 6 (some .int) ws ({ frames := 0, cells := 0, slots := 0, locals := 0 } : Room) Z #[(.int (0 : Int32)), (.ref t), (.int (0 : Int32)), (.int (2 : Int32))] h0 (fun v h L => (∃ r, v = some (.int r)) ∧ L = [] ∧ h = h0) 0 0 := by
  refine enter (plainFor_of_name pn_4) ?_
  intro p e s m below meth c s₁ hnm hret hlk D0
  rw [ef_cSg_2 m t]
  refine g_iloadN D0 1 d_jdk_48m5_0 rfl rfl ?_
  refine g_iloadN D0 2 d_jdk_48m5_1 rfl rfl ?_
  refine g_iadd D0 3 d_jdk_48m5_2 rfl ?_
  rw [show ((0 : Int32) + (2 : Int32)) = (2 : Int32) from by decide]
  refine g_istore D0 5 #[.val (.int (0 : Int32)), .val (.ref t), .val (.int (0 : Int32)), .val (.int (2 : Int32)), .val (.int (2 : Int32)), .unset] d_jdk_48m5_3 rfl rfl ?_
  refine g_iloadN D0 6 d_jdk_48m5_5 rfl rfl ?_
  refine g_istore D0 8 #[.val (.int (0 : Int32)), .val (.ref t), .val (.int (0 : Int32)), .val (.int (2 : Int32)), .val (.int (2 : Int32)), .val (.int (0 : Int32))] d_jdk_48m5_6 rfl rfl ?_
  refine g_iload D0 10 d_jdk_48m5_8 rfl rfl ?_
  refine g_iload D0 12 d_jdk_48m5_10 rfl rfl ?_
  refine g_icmpN D0 15 d_jdk_48m5_12 (by decide) rfl ?_
  refine g_bipush D0 17 (31 : Int32) d_jdk_48m5_15 rfl rfl ?_
  refine g_iloadN D0 18 d_jdk_48m5_17 rfl rfl ?_
  refine g_imul D0 19 d_jdk_48m5_18 rfl ?_
  rw [show ((31 : Int32) * (0 : Int32)) = (0 : Int32) from by decide]
  refine g_aloadN D0 20 d_jdk_48m5_19 rfl rfl rfl ?_
  refine g_iload D0 22 d_jdk_48m5_20 rfl rfl ?_
  refine g_baload D0 23 V_t (v := (.int (StrChars.lo8 c0))) ⟨by decide, by decide⟩ rfl d_jdk_48m5_22 rfl ?_
  refine g_sipush D0 26 (255 : Int32) d_jdk_48m5_23 rfl rfl ?_
  refine g_iand D0 27 d_jdk_48m5_26 rfl ?_
  refine g_iadd D0 28 d_jdk_48m5_27 rfl ?_
  refine g_istoreN D0 29 #[.val (.int ((0 : Int32) + ((StrChars.lo8 c0) &&& (255 : Int32)))), .val (.ref t), .val (.int (0 : Int32)), .val (.int (2 : Int32)), .val (.int (2 : Int32)), .val (.int (0 : Int32))] d_jdk_48m5_28 rfl rfl ?_
  refine g_iinc D0 32 (1 : Int32) #[.val (.int ((0 : Int32) + ((StrChars.lo8 c0) &&& (255 : Int32)))), .val (.ref t), .val (.int (0 : Int32)), .val (.int (2 : Int32)), .val (.int (2 : Int32)), .val (.int ((0 : Int32) + (1 : Int32)))] d_jdk_48m5_29 rfl rfl rfl rfl ?_
  rw [show ((0 : Int32) + (1 : Int32)) = (1 : Int32) from by decide]
  refine g_goto D0 8 d_jdk_48m5_32 (by decide) (by decide) ?_
  refine g_iload D0 10 d_jdk_48m5_8 rfl rfl ?_
  refine g_iload D0 12 d_jdk_48m5_10 rfl rfl ?_
  refine g_icmpN D0 15 d_jdk_48m5_12 (by decide) rfl ?_
  refine g_bipush D0 17 (31 : Int32) d_jdk_48m5_15 rfl rfl ?_
  refine g_iloadN D0 18 d_jdk_48m5_17 rfl rfl ?_
  refine g_imul D0 19 d_jdk_48m5_18 rfl ?_
  refine g_aloadN D0 20 d_jdk_48m5_19 rfl rfl rfl ?_
  refine g_iload D0 22 d_jdk_48m5_20 rfl rfl ?_
  refine g_baload D0 23 V_t (v := (.int (StrChars.lo8 c1))) ⟨by decide, by decide⟩ rfl d_jdk_48m5_22 rfl ?_
  refine g_sipush D0 26 (255 : Int32) d_jdk_48m5_23 rfl rfl ?_
  refine g_iand D0 27 d_jdk_48m5_26 rfl ?_
  refine g_iadd D0 28 d_jdk_48m5_27 rfl ?_
  refine g_istoreN D0 29 #[.val (.int (((31 : Int32) * ((0 : Int32) + ((StrChars.lo8 c0) &&& (255 : Int32)))) + ((StrChars.lo8 c1) &&& (255 : Int32)))), .val (.ref t), .val (.int (0 : Int32)), .val (.int (2 : Int32)), .val (.int (2 : Int32)), .val (.int (1 : Int32))] d_jdk_48m5_28 rfl rfl ?_
  refine g_iinc D0 32 (1 : Int32) #[.val (.int (((31 : Int32) * ((0 : Int32) + ((StrChars.lo8 c0) &&& (255 : Int32)))) + ((StrChars.lo8 c1) &&& (255 : Int32)))), .val (.ref t), .val (.int (0 : Int32)), .val (.int (2 : Int32)), .val (.int (2 : Int32)), .val (.int ((1 : Int32) + (1 : Int32)))] d_jdk_48m5_29 rfl rfl rfl rfl ?_
  rw [show ((1 : Int32) + (1 : Int32)) = (2 : Int32) from by decide]
  refine g_goto D0 8 d_jdk_48m5_32 (by decide) (by decide) ?_
  refine g_iload D0 10 d_jdk_48m5_8 rfl rfl ?_
  refine g_iload D0 12 d_jdk_48m5_10 rfl rfl ?_
  refine g_icmpY D0 35 d_jdk_48m5_12 (by decide) (by decide) (by decide) ?_
  refine g_iloadN D0 36 d_jdk_48m5_35 rfl rfl ?_
  exact r_I D0 hret hlk d_jdk_48m5_36 ⟨⟨_, rfl⟩, rfl, rfl⟩ (by decide) (by decide)
set_option maxRecDepth 65536 in
set_option maxHeartbeats 40000000 in
theorem cVH_2 (l : Launch) (Z : State) (a0 : Array Value) (hw : ∀ d ∈ tables_1, d.before a0 Z = true) (ws : List Jvm.Cond) (t : Addr) (kb : ClassId) (c0 c1 : Int32) (h0 : Heap) (n0 : Nat) (Z0 : n0 ≤ h0.size) (V_t : Arv Z h0 t kb .byte (2 : Int32) [(.int (StrChars.lo8 c0)), (.int (StrChars.lo8 c1))] (.int (0 : Int32))) (E_t : Exa Z h0 t "[B") :
    Con l (⟨"jdk/internal/util/ArraysSupport", "vectorizedHashCode", "(Ljava/lang/Object;IIII)I"⟩ : MethodName) jdk_48_method_4_code 5 (some .int) ws ({ frames := 1, cells := 0, slots := 0, locals := 17 } : Room) Z #[(.ref t), (.int (0 : Int32)), (.int (2 : Int32)), (.int (0 : Int32)), (.int (4 : Int32))] h0 (fun v h L => (∃ r, v = some (.int r)) ∧ L = [] ∧ h = h0) 0 0 := by
  refine enter (plainFor_of_name pn_4) ?_
  intro p e s m below meth c s₁ hnm hret hlk D0
  rw [ef_cVH_2 m t]
  refine g_iload D0 2 d_jdk_48m4_0 rfl rfl ?_
  refine g_tswIn D0 44 (o := 42) d_jdk_48m4_2 (by decide) (by decide) (by decide) (by decide) ?_
  refine g_iloadN D0 45 d_jdk_48m4_44 rfl rfl ?_
  refine g_aloadN D0 46 d_jdk_48m4_45 rfl rfl rfl ?_
  refine g_castY D0 49 (hw _ w_82) (Ins.self E_t) d_jdk_48m4_46 rfl ?_
  intro T178 D178
  refine g_iloadN D178 50 d_jdk_48m4_49 rfl rfl ?_
  refine g_iloadN D178 51 d_jdk_48m4_50 rfl rfl ?_
  refine g_callSp D178 54 (hw _ w_84) (hw _ w_85) (hw _ w_80) (hw _ w_86) (by decide) ((cSg_2 l Z a0 hw [] t kb c0 c1 h0 n0 Z0 V_t).back D178 0 (hw _ w_86) (hw _ w_80) (by decide) (by decide)) rfl [(.int (0 : Int32)), (.ref t), (.int (0 : Int32)), (.int (2 : Int32))] rfl (lenOf pd_7 rfl) rfl (Nat.le_of_eq rfl) (by decide) (by decide) d_jdk_48m4_51 rfl ?_
  intro v179 T179 q179 D179
  obtain ⟨r179, rfl⟩ := q179
  show Go p e below _ (T179.setTop (mkF m 54 #[.val (.ref t), .val (.int (0 : Int32)), .val (.int (2 : Int32)), .val (.int (0 : Int32)), .val (.int (4 : Int32))] [(.int r179)]))
  refine g_goto D179 157 d_jdk_48m4_54 (by decide) (by decide) ?_
  exact r_I D179 hret hlk d_jdk_48m4_157 ⟨⟨_, rfl⟩, rfl, rfl⟩ (by decide) (by decide)
set_option maxRecDepth 65536 in
set_option maxHeartbeats 40000000 in
theorem cLH_2 (l : Launch) (Z : State) (a0 : Array Value) (hw : ∀ d ∈ tables_1, d.before a0 Z = true) (ws : List Jvm.Cond) (t : Addr) (kb : ClassId) (c0 c1 : Int32) (h0 : Heap) (n0 : Nat) (Z0 : n0 ≤ h0.size) (V_t : Arv Z h0 t kb .byte (2 : Int32) [(.int (StrChars.lo8 c0)), (.int (StrChars.lo8 c1))] (.int (0 : Int32))) (E_t : Exa Z h0 t "[B") :
    Con l (⟨"java/lang/StringLatin1", "hashCode", "([B)I"⟩ : MethodName) jdk_43_method_21_code 1 (some .int) ws ({ frames := 2, cells := 0, slots := 0, locals := 33 } : Room) Z #[(.ref t)] h0 (fun v h L => (∃ r, v = some (.int r)) ∧ L = [] ∧ h = h0) 0 0 := by
  refine enter (plainFor_of_name pn_3) ?_
  intro p e s m below meth c s₁ hnm hret hlk D0
  rw [ef_cLH_2 m t]
  refine g_aloadN D0 1 d_jdk_43m21_0 rfl rfl rfl ?_
  refine g_alen D0 2 V_t d_jdk_43m21_1 rfl ?_
  refine g_lswMiss D0 42 d_jdk_43m21_2 (by decide) (by decide) (by decide) (by decide) ?_
  refine g_aloadN D0 43 d_jdk_43m21_42 rfl rfl rfl ?_
  refine g_iconst D0 44 (0 : Int32) d_jdk_43m21_43 rfl rfl ?_
  refine g_aloadN D0 45 d_jdk_43m21_44 rfl rfl rfl ?_
  refine g_alen D0 46 V_t d_jdk_43m21_45 rfl ?_
  refine g_iconst D0 47 (0 : Int32) d_jdk_43m21_46 rfl rfl ?_
  refine g_iconst D0 48 (4 : Int32) d_jdk_43m21_47 rfl rfl ?_
  refine g_callSp D0 51 (hw _ w_78) (hw _ w_79) (hw _ w_80) (hw _ w_81) (by decide) ((cVH_2 l Z a0 hw [] t kb c0 c1 h0 n0 Z0 V_t E_t).back D0 0 (hw _ w_81) (hw _ w_80) (by decide) (by decide)) rfl [(.ref t), (.int (0 : Int32)), (.int (2 : Int32)), (.int (0 : Int32)), (.int (4 : Int32))] rfl (lenOf pd_8 rfl) rfl (Nat.le_of_eq rfl) (by decide) (by decide) d_jdk_43m21_48 rfl ?_
  intro v180 T180 q180 D180
  obtain ⟨r180, rfl⟩ := q180
  show Go p e below _ (T180.setTop (mkF m 51 #[.val (.ref t)] [(.int r180)]))
  exact r_I D180 hret hlk d_jdk_43m21_51 ⟨⟨_, rfl⟩, rfl, rfl⟩ (by decide) (by decide)
def Q_cHC_2 (Z : State) (x t : Addr) (kb : ClassId) (zc : Int32) (c0 c1 : Int32) (h0 : Heap) (n0 : Nat) : Option Value → Heap → List Loc → Prop := (fun v h L => (∃ r, v = some (.int r)) ∧ Fr n0 L ∧ Keep h0 h [x] ∧ LS Z h x [c0, c1])
set_option maxRecDepth 65536 in
set_option maxHeartbeats 40000000 in
theorem cHC_2 (l : Launch) (Z : State) (a0 : Array Value) (hw : ∀ d ∈ tables_1, d.before a0 Z = true) (ws : List Jvm.Cond) (x t : Addr) (kb : ClassId) (zc : Int32) (c0 c1 : Int32) (h0 : Heap) (n0 : Nat) (Z0 : n0 ≤ h0.size) (OLD : Old Z n0 h0) (CS : Sta Z Z.heap "java/lang/String" "COMPACT_STRINGS" "Z" (.int zc)) (hzc : ¬ zc = 0) (V_t : Arv Z h0 t kb .byte (2 : Int32) [(.int (StrChars.lo8 c0)), (.int (StrChars.lo8 c1))] (.int (0 : Int32))) (E_t : Exa Z h0 t "[B") (E_x : Exa Z h0 x "java/lang/String") (F_v : Fld Z h0 x "java/lang/String" "value" "[B" (.ref t)) (F_c : Fld Z h0 x "java/lang/String" "coder" "B" (.int (0 : Int32))) (F_h : Fld Z h0 x "java/lang/String" "hash" "I" (.int (0 : Int32))) (F_z : Fld Z h0 x "java/lang/String" "hashIsZero" "Z" (.int (0 : Int32))) (gx : n0 ≤ x) (H0 : B8 c0) (H1 : B8 c1) :
    Con l (⟨"java/lang/String", "hashCode", "()I"⟩ : MethodName) jdk_42_method_78_code 2 (some .int) ws ({ frames := 3, cells := 0, slots := 0, locals := 45 } : Room) Z #[(.ref x)] h0 (Q_cHC_2 Z x t kb zc c0 c1 h0 n0) 0 0 := by
  refine enter (plainFor_of_name pn_1) ?_
  intro p e s m below meth c s₁ hnm hret hlk D0
  rw [ef_cHC_2 m x]
  refine g_aloadN D0 1 d_jdk_42m78_0 rfl rfl rfl ?_
  refine g_getF D0 4 (hw _ w_47) Via.refl F_h d_jdk_42m78_1 rfl ?_
  intro T181 D181
  refine g_istoreN D181 5 #[.val (.ref x), .val (.int (0 : Int32))] d_jdk_42m78_4 rfl rfl ?_
  refine g_iloadN D181 6 d_jdk_42m78_5 rfl rfl ?_
  refine g_ifN D181 9 d_jdk_42m78_6 (by decide) rfl ?_
  refine g_aloadN D181 10 d_jdk_42m78_9 rfl rfl rfl ?_
  refine g_getF D181 13 (hw _ w_49) Via.refl F_z d_jdk_42m78_10 rfl ?_
  intro T182 D182
  refine g_ifN D182 16 d_jdk_42m78_13 (by decide) rfl ?_
  refine g_aloadN D182 17 d_jdk_42m78_16 rfl rfl rfl ?_
  refine g_callVp D182 20 (hw _ w_51) (hw _ w_52) (notFace_of_selects (args := #[]) (mvT D182.wm (hw _ w_54))) (hw _ w_54) (hw _ w_53) (by decide) ((cIL_0 l Z a0 hw [] x zc h0 n0 Z0 OLD CS hzc F_c).back D182 0 (hw _ w_55) (hw _ w_10) (by decide) (by decide)) E_x rfl [] rfl (lenOf pd_5 rfl) rfl (Nat.le_of_eq rfl) (by decide) (by decide) d_jdk_42m78_17 rfl ?_
  intro v183 T183 q183 D183
  subst q183
  show Go p e below _ (T183.setTop (mkF m 20 #[.val (.ref x), .val (.int (0 : Int32))] [(.int (1 : Int32))]))
  refine g_ifN D183 23 d_jdk_42m78_20 (by decide) rfl ?_
  refine g_aloadN D183 24 d_jdk_42m78_23 rfl rfl rfl ?_
  refine g_getF D183 27 (hw _ w_27) Via.refl F_v d_jdk_42m78_24 rfl ?_
  intro T184 D184
  refine g_callSp D184 30 (hw _ w_57) (hw _ w_58) (hw _ w_59) (hw _ w_60) (by decide) ((cLH_2 l Z a0 hw [] t kb c0 c1 h0 n0 Z0 V_t E_t).back D184 0 (hw _ w_60) (hw _ w_59) (by decide) (by decide)) rfl [(.ref t)] rfl (lenOf pd_6 rfl) rfl (Nat.le_of_eq rfl) (by decide) (by decide) d_jdk_42m78_27 rfl ?_
  intro v185 T185 q185 D185
  obtain ⟨r185, rfl⟩ := q185
  show Go p e below _ (T185.setTop (mkF m 30 #[.val (.ref x), .val (.int (0 : Int32))] [(.int r185)]))
  refine g_goto D185 40 d_jdk_42m78_30 (by decide) (by decide) ?_
  refine g_istoreN D185 41 #[.val (.ref x), .val (.int r185)] d_jdk_42m78_40 rfl rfl ?_
  refine g_iloadN D185 42 d_jdk_42m78_41 rfl rfl ?_
  by_cases z0 : r185 = (0 : Int32)
  · refine g_ifN D185 45 d_jdk_42m78_42 (teq z0).2 rfl ?_
    refine g_aloadN D185 46 d_jdk_42m78_45 rfl rfl rfl ?_
    refine g_iconst D185 47 (1 : Int32) d_jdk_42m78_46 rfl rfl ?_
    refine g_putF D185 50 (hw _ w_49) Via.refl F_z E_x (Or.inl (hw _ w_50)) (hw _ w_9) (ty := .boolean) (by decide) rfl rfl (fun _ _ => trivial) d_jdk_42m78_47 rfl ?_
    intro T186 h186 W186 D186
    have N186 := Fr.snoc D186.st (Fr.nil n0) gx
    have F186 := F_z.same W186
    refine g_goto D186 58 d_jdk_42m78_50 (by decide) (by decide) ?_
    refine g_iloadN D186 59 d_jdk_42m78_58 rfl rfl ?_
    exact r_I D186 hret hlk d_jdk_42m78_59 ⟨⟨_, rfl⟩, N186, ((Keep.refl _ [x]).wr W186 (Or.inl (List.mem_of_getElem? (i := 0) rfl))), t, kb, (E_x.wr W186), (F_c.other W186 (Or.inr (slot_ne (Or.inr (hw _ w_24)) (Or.inl (hw _ w_50)) (by decide) (t := .byte) (t' := .boolean) (by decide) (by decide)))), (F_v.other W186 (Or.inr (slot_ne (Or.inr (hw _ w_23)) (Or.inl (hw _ w_50)) (by decide) (t := (.array .byte)) (t' := .boolean) (by decide) (by decide)))), (V_t.other W186 (Ne.symm (Exa.neArv E_x V_t (hw _ w_9)))), (b8_cons H0 (b8_cons H1 b8_nil)), Nat.le_of_ble_eq_true rfl⟩ (by decide) (by decide)
  refine g_ifY D185 53 d_jdk_42m78_42 (feq z0).2 (by decide) (by decide) ?_
  refine g_aloadN D185 54 d_jdk_42m78_53 rfl rfl rfl ?_
  refine g_iloadN D185 55 d_jdk_42m78_54 rfl rfl ?_
  refine g_putF D185 58 (hw _ w_47) Via.refl F_h E_x (Or.inl (hw _ w_48)) (hw _ w_9) (ty := .int) (by decide) rfl rfl (fun _ _ => trivial) d_jdk_42m78_55 rfl ?_
  intro T187 h187 W187 D187
  have N187 := Fr.snoc D187.st (Fr.nil n0) gx
  have F187 := F_h.same W187
  refine g_iloadN D187 59 d_jdk_42m78_58 rfl rfl ?_
  exact r_I D187 hret hlk d_jdk_42m78_59 ⟨⟨_, rfl⟩, N187, ((Keep.refl _ [x]).wr W187 (Or.inl (List.mem_of_getElem? (i := 0) rfl))), t, kb, (E_x.wr W187), (F_c.other W187 (Or.inr (slot_ne (Or.inr (hw _ w_24)) (Or.inl (hw _ w_48)) (by decide) (t := .byte) (t' := .int) (by decide) (by decide)))), (F_v.other W187 (Or.inr (slot_ne (Or.inr (hw _ w_23)) (Or.inl (hw _ w_48)) (by decide) (t := (.array .byte)) (t' := .int) (by decide) (by decide)))), (V_t.other W187 (Ne.symm (Exa.neArv E_x V_t (hw _ w_9)))), (b8_cons H0 (b8_cons H1 b8_nil)), Nat.le_of_ble_eq_true rfl⟩ (by decide) (by decide)
set_option maxRecDepth 65536 in
set_option maxHeartbeats 40000000 in
theorem cSg_3 (l : Launch) (Z : State) (a0 : Array Value) (hw : ∀ d ∈ tables_1, d.before a0 Z = true) (ws : List Jvm.Cond) (t : Addr) (kb : ClassId) (c0 c1 c2 : Int32) (h0 : Heap) (n0 : Nat) (Z0 : n0 ≤ h0.size) (V_t : Arv Z h0 t kb .byte (3 : Int32) [(.int (StrChars.lo8 c0)), (.int (StrChars.lo8 c1)), (.int (StrChars.lo8 c2))] (.int (0 : Int32))) :
    Con l (⟨"jdk/internal/util/ArraysSupport", "signedHashCode", "(I[BII)I"⟩ : MethodName) jdk_48_method_5_code 6 (some .int) ws ({ frames := 0, cells := 0, slots := 0, locals := 0 } : Room) Z #[(.int (0 : Int32)), (.ref t), (.int (0 : Int32)), (.int (3 : Int32))] h0 (fun v h L => (∃ r, v = some (.int r)) ∧ L = [] ∧ h = h0) 0 0 := by
  refine enter (plainFor_of_name pn_4) ?_
  intro p e s m below meth c s₁ hnm hret hlk D0
  rw [ef_cSg_3 m t]
  refine g_iloadN D0 1 d_jdk_48m5_0 rfl rfl ?_
  refine g_iloadN D0 2 d_jdk_48m5_1 rfl rfl ?_
  refine g_iadd D0 3 d_jdk_48m5_2 rfl ?_
  rw [show ((0 : Int32) + (3 : Int32)) = (3 : Int32) from by decide]
  refine g_istore D0 5 #[.val (.int (0 : Int32)), .val (.ref t), .val (.int (0 : Int32)), .val (.int (3 : Int32)), .val (.int (3 : Int32)), .unset] d_jdk_48m5_3 rfl rfl ?_
  refine g_iloadN D0 6 d_jdk_48m5_5 rfl rfl ?_
  refine g_istore D0 8 #[.val (.int (0 : Int32)), .val (.ref t), .val (.int (0 : Int32)), .val (.int (3 : Int32)), .val (.int (3 : Int32)), .val (.int (0 : Int32))] d_jdk_48m5_6 rfl rfl ?_
  refine g_iload D0 10 d_jdk_48m5_8 rfl rfl ?_
  refine g_iload D0 12 d_jdk_48m5_10 rfl rfl ?_
  refine g_icmpN D0 15 d_jdk_48m5_12 (by decide) rfl ?_
  refine g_bipush D0 17 (31 : Int32) d_jdk_48m5_15 rfl rfl ?_
  refine g_iloadN D0 18 d_jdk_48m5_17 rfl rfl ?_
  refine g_imul D0 19 d_jdk_48m5_18 rfl ?_
  rw [show ((31 : Int32) * (0 : Int32)) = (0 : Int32) from by decide]
  refine g_aloadN D0 20 d_jdk_48m5_19 rfl rfl rfl ?_
  refine g_iload D0 22 d_jdk_48m5_20 rfl rfl ?_
  refine g_baload D0 23 V_t (v := (.int (StrChars.lo8 c0))) ⟨by decide, by decide⟩ rfl d_jdk_48m5_22 rfl ?_
  refine g_sipush D0 26 (255 : Int32) d_jdk_48m5_23 rfl rfl ?_
  refine g_iand D0 27 d_jdk_48m5_26 rfl ?_
  refine g_iadd D0 28 d_jdk_48m5_27 rfl ?_
  refine g_istoreN D0 29 #[.val (.int ((0 : Int32) + ((StrChars.lo8 c0) &&& (255 : Int32)))), .val (.ref t), .val (.int (0 : Int32)), .val (.int (3 : Int32)), .val (.int (3 : Int32)), .val (.int (0 : Int32))] d_jdk_48m5_28 rfl rfl ?_
  refine g_iinc D0 32 (1 : Int32) #[.val (.int ((0 : Int32) + ((StrChars.lo8 c0) &&& (255 : Int32)))), .val (.ref t), .val (.int (0 : Int32)), .val (.int (3 : Int32)), .val (.int (3 : Int32)), .val (.int ((0 : Int32) + (1 : Int32)))] d_jdk_48m5_29 rfl rfl rfl rfl ?_
  rw [show ((0 : Int32) + (1 : Int32)) = (1 : Int32) from by decide]
  refine g_goto D0 8 d_jdk_48m5_32 (by decide) (by decide) ?_
  refine g_iload D0 10 d_jdk_48m5_8 rfl rfl ?_
  refine g_iload D0 12 d_jdk_48m5_10 rfl rfl ?_
  refine g_icmpN D0 15 d_jdk_48m5_12 (by decide) rfl ?_
  refine g_bipush D0 17 (31 : Int32) d_jdk_48m5_15 rfl rfl ?_
  refine g_iloadN D0 18 d_jdk_48m5_17 rfl rfl ?_
  refine g_imul D0 19 d_jdk_48m5_18 rfl ?_
  refine g_aloadN D0 20 d_jdk_48m5_19 rfl rfl rfl ?_
  refine g_iload D0 22 d_jdk_48m5_20 rfl rfl ?_
  refine g_baload D0 23 V_t (v := (.int (StrChars.lo8 c1))) ⟨by decide, by decide⟩ rfl d_jdk_48m5_22 rfl ?_
  refine g_sipush D0 26 (255 : Int32) d_jdk_48m5_23 rfl rfl ?_
  refine g_iand D0 27 d_jdk_48m5_26 rfl ?_
  refine g_iadd D0 28 d_jdk_48m5_27 rfl ?_
  refine g_istoreN D0 29 #[.val (.int (((31 : Int32) * ((0 : Int32) + ((StrChars.lo8 c0) &&& (255 : Int32)))) + ((StrChars.lo8 c1) &&& (255 : Int32)))), .val (.ref t), .val (.int (0 : Int32)), .val (.int (3 : Int32)), .val (.int (3 : Int32)), .val (.int (1 : Int32))] d_jdk_48m5_28 rfl rfl ?_
  refine g_iinc D0 32 (1 : Int32) #[.val (.int (((31 : Int32) * ((0 : Int32) + ((StrChars.lo8 c0) &&& (255 : Int32)))) + ((StrChars.lo8 c1) &&& (255 : Int32)))), .val (.ref t), .val (.int (0 : Int32)), .val (.int (3 : Int32)), .val (.int (3 : Int32)), .val (.int ((1 : Int32) + (1 : Int32)))] d_jdk_48m5_29 rfl rfl rfl rfl ?_
  rw [show ((1 : Int32) + (1 : Int32)) = (2 : Int32) from by decide]
  refine g_goto D0 8 d_jdk_48m5_32 (by decide) (by decide) ?_
  refine g_iload D0 10 d_jdk_48m5_8 rfl rfl ?_
  refine g_iload D0 12 d_jdk_48m5_10 rfl rfl ?_
  refine g_icmpN D0 15 d_jdk_48m5_12 (by decide) rfl ?_
  refine g_bipush D0 17 (31 : Int32) d_jdk_48m5_15 rfl rfl ?_
  refine g_iloadN D0 18 d_jdk_48m5_17 rfl rfl ?_
  refine g_imul D0 19 d_jdk_48m5_18 rfl ?_
  refine g_aloadN D0 20 d_jdk_48m5_19 rfl rfl rfl ?_
  refine g_iload D0 22 d_jdk_48m5_20 rfl rfl ?_
  refine g_baload D0 23 V_t (v := (.int (StrChars.lo8 c2))) ⟨by decide, by decide⟩ rfl d_jdk_48m5_22 rfl ?_
  refine g_sipush D0 26 (255 : Int32) d_jdk_48m5_23 rfl rfl ?_
  refine g_iand D0 27 d_jdk_48m5_26 rfl ?_
  refine g_iadd D0 28 d_jdk_48m5_27 rfl ?_
  refine g_istoreN D0 29 #[.val (.int (((31 : Int32) * (((31 : Int32) * ((0 : Int32) + ((StrChars.lo8 c0) &&& (255 : Int32)))) + ((StrChars.lo8 c1) &&& (255 : Int32)))) + ((StrChars.lo8 c2) &&& (255 : Int32)))), .val (.ref t), .val (.int (0 : Int32)), .val (.int (3 : Int32)), .val (.int (3 : Int32)), .val (.int (2 : Int32))] d_jdk_48m5_28 rfl rfl ?_
  refine g_iinc D0 32 (1 : Int32) #[.val (.int (((31 : Int32) * (((31 : Int32) * ((0 : Int32) + ((StrChars.lo8 c0) &&& (255 : Int32)))) + ((StrChars.lo8 c1) &&& (255 : Int32)))) + ((StrChars.lo8 c2) &&& (255 : Int32)))), .val (.ref t), .val (.int (0 : Int32)), .val (.int (3 : Int32)), .val (.int (3 : Int32)), .val (.int ((2 : Int32) + (1 : Int32)))] d_jdk_48m5_29 rfl rfl rfl rfl ?_
  rw [show ((2 : Int32) + (1 : Int32)) = (3 : Int32) from by decide]
  refine g_goto D0 8 d_jdk_48m5_32 (by decide) (by decide) ?_
  refine g_iload D0 10 d_jdk_48m5_8 rfl rfl ?_
  refine g_iload D0 12 d_jdk_48m5_10 rfl rfl ?_
  refine g_icmpY D0 35 d_jdk_48m5_12 (by decide) (by decide) (by decide) ?_
  refine g_iloadN D0 36 d_jdk_48m5_35 rfl rfl ?_
  exact r_I D0 hret hlk d_jdk_48m5_36 ⟨⟨_, rfl⟩, rfl, rfl⟩ (by decide) (by decide)
set_option maxRecDepth 65536 in
set_option maxHeartbeats 40000000 in
theorem cVH_3 (l : Launch) (Z : State) (a0 : Array Value) (hw : ∀ d ∈ tables_1, d.before a0 Z = true) (ws : List Jvm.Cond) (t : Addr) (kb : ClassId) (c0 c1 c2 : Int32) (h0 : Heap) (n0 : Nat) (Z0 : n0 ≤ h0.size) (V_t : Arv Z h0 t kb .byte (3 : Int32) [(.int (StrChars.lo8 c0)), (.int (StrChars.lo8 c1)), (.int (StrChars.lo8 c2))] (.int (0 : Int32))) (E_t : Exa Z h0 t "[B") :
    Con l (⟨"jdk/internal/util/ArraysSupport", "vectorizedHashCode", "(Ljava/lang/Object;IIII)I"⟩ : MethodName) jdk_48_method_4_code 5 (some .int) ws ({ frames := 1, cells := 0, slots := 0, locals := 17 } : Room) Z #[(.ref t), (.int (0 : Int32)), (.int (3 : Int32)), (.int (0 : Int32)), (.int (4 : Int32))] h0 (fun v h L => (∃ r, v = some (.int r)) ∧ L = [] ∧ h = h0) 0 0 := by
  refine enter (plainFor_of_name pn_4) ?_
  intro p e s m below meth c s₁ hnm hret hlk D0
  rw [ef_cVH_3 m t]
  refine g_iload D0 2 d_jdk_48m4_0 rfl rfl ?_
  refine g_tswIn D0 44 (o := 42) d_jdk_48m4_2 (by decide) (by decide) (by decide) (by decide) ?_
  refine g_iloadN D0 45 d_jdk_48m4_44 rfl rfl ?_
  refine g_aloadN D0 46 d_jdk_48m4_45 rfl rfl rfl ?_
  refine g_castY D0 49 (hw _ w_82) (Ins.self E_t) d_jdk_48m4_46 rfl ?_
  intro T188 D188
  refine g_iloadN D188 50 d_jdk_48m4_49 rfl rfl ?_
  refine g_iloadN D188 51 d_jdk_48m4_50 rfl rfl ?_
  refine g_callSp D188 54 (hw _ w_84) (hw _ w_85) (hw _ w_80) (hw _ w_86) (by decide) ((cSg_3 l Z a0 hw [] t kb c0 c1 c2 h0 n0 Z0 V_t).back D188 0 (hw _ w_86) (hw _ w_80) (by decide) (by decide)) rfl [(.int (0 : Int32)), (.ref t), (.int (0 : Int32)), (.int (3 : Int32))] rfl (lenOf pd_7 rfl) rfl (Nat.le_of_eq rfl) (by decide) (by decide) d_jdk_48m4_51 rfl ?_
  intro v189 T189 q189 D189
  obtain ⟨r189, rfl⟩ := q189
  show Go p e below _ (T189.setTop (mkF m 54 #[.val (.ref t), .val (.int (0 : Int32)), .val (.int (3 : Int32)), .val (.int (0 : Int32)), .val (.int (4 : Int32))] [(.int r189)]))
  refine g_goto D189 157 d_jdk_48m4_54 (by decide) (by decide) ?_
  exact r_I D189 hret hlk d_jdk_48m4_157 ⟨⟨_, rfl⟩, rfl, rfl⟩ (by decide) (by decide)
set_option maxRecDepth 65536 in
set_option maxHeartbeats 40000000 in
theorem cLH_3 (l : Launch) (Z : State) (a0 : Array Value) (hw : ∀ d ∈ tables_1, d.before a0 Z = true) (ws : List Jvm.Cond) (t : Addr) (kb : ClassId) (c0 c1 c2 : Int32) (h0 : Heap) (n0 : Nat) (Z0 : n0 ≤ h0.size) (V_t : Arv Z h0 t kb .byte (3 : Int32) [(.int (StrChars.lo8 c0)), (.int (StrChars.lo8 c1)), (.int (StrChars.lo8 c2))] (.int (0 : Int32))) (E_t : Exa Z h0 t "[B") :
    Con l (⟨"java/lang/StringLatin1", "hashCode", "([B)I"⟩ : MethodName) jdk_43_method_21_code 1 (some .int) ws ({ frames := 2, cells := 0, slots := 0, locals := 33 } : Room) Z #[(.ref t)] h0 (fun v h L => (∃ r, v = some (.int r)) ∧ L = [] ∧ h = h0) 0 0 := by
  refine enter (plainFor_of_name pn_3) ?_
  intro p e s m below meth c s₁ hnm hret hlk D0
  rw [ef_cLH_3 m t]
  refine g_aloadN D0 1 d_jdk_43m21_0 rfl rfl rfl ?_
  refine g_alen D0 2 V_t d_jdk_43m21_1 rfl ?_
  refine g_lswMiss D0 42 d_jdk_43m21_2 (by decide) (by decide) (by decide) (by decide) ?_
  refine g_aloadN D0 43 d_jdk_43m21_42 rfl rfl rfl ?_
  refine g_iconst D0 44 (0 : Int32) d_jdk_43m21_43 rfl rfl ?_
  refine g_aloadN D0 45 d_jdk_43m21_44 rfl rfl rfl ?_
  refine g_alen D0 46 V_t d_jdk_43m21_45 rfl ?_
  refine g_iconst D0 47 (0 : Int32) d_jdk_43m21_46 rfl rfl ?_
  refine g_iconst D0 48 (4 : Int32) d_jdk_43m21_47 rfl rfl ?_
  refine g_callSp D0 51 (hw _ w_78) (hw _ w_79) (hw _ w_80) (hw _ w_81) (by decide) ((cVH_3 l Z a0 hw [] t kb c0 c1 c2 h0 n0 Z0 V_t E_t).back D0 0 (hw _ w_81) (hw _ w_80) (by decide) (by decide)) rfl [(.ref t), (.int (0 : Int32)), (.int (3 : Int32)), (.int (0 : Int32)), (.int (4 : Int32))] rfl (lenOf pd_8 rfl) rfl (Nat.le_of_eq rfl) (by decide) (by decide) d_jdk_43m21_48 rfl ?_
  intro v190 T190 q190 D190
  obtain ⟨r190, rfl⟩ := q190
  show Go p e below _ (T190.setTop (mkF m 51 #[.val (.ref t)] [(.int r190)]))
  exact r_I D190 hret hlk d_jdk_43m21_51 ⟨⟨_, rfl⟩, rfl, rfl⟩ (by decide) (by decide)
def Q_cHC_3 (Z : State) (x t : Addr) (kb : ClassId) (zc : Int32) (c0 c1 c2 : Int32) (h0 : Heap) (n0 : Nat) : Option Value → Heap → List Loc → Prop := (fun v h L => (∃ r, v = some (.int r)) ∧ Fr n0 L ∧ Keep h0 h [x] ∧ LS Z h x [c0, c1, c2])
set_option maxRecDepth 65536 in
set_option maxHeartbeats 40000000 in
theorem cHC_3 (l : Launch) (Z : State) (a0 : Array Value) (hw : ∀ d ∈ tables_1, d.before a0 Z = true) (ws : List Jvm.Cond) (x t : Addr) (kb : ClassId) (zc : Int32) (c0 c1 c2 : Int32) (h0 : Heap) (n0 : Nat) (Z0 : n0 ≤ h0.size) (OLD : Old Z n0 h0) (CS : Sta Z Z.heap "java/lang/String" "COMPACT_STRINGS" "Z" (.int zc)) (hzc : ¬ zc = 0) (V_t : Arv Z h0 t kb .byte (3 : Int32) [(.int (StrChars.lo8 c0)), (.int (StrChars.lo8 c1)), (.int (StrChars.lo8 c2))] (.int (0 : Int32))) (E_t : Exa Z h0 t "[B") (E_x : Exa Z h0 x "java/lang/String") (F_v : Fld Z h0 x "java/lang/String" "value" "[B" (.ref t)) (F_c : Fld Z h0 x "java/lang/String" "coder" "B" (.int (0 : Int32))) (F_h : Fld Z h0 x "java/lang/String" "hash" "I" (.int (0 : Int32))) (F_z : Fld Z h0 x "java/lang/String" "hashIsZero" "Z" (.int (0 : Int32))) (gx : n0 ≤ x) (H0 : B8 c0) (H1 : B8 c1) (H2 : B8 c2) :
    Con l (⟨"java/lang/String", "hashCode", "()I"⟩ : MethodName) jdk_42_method_78_code 2 (some .int) ws ({ frames := 3, cells := 0, slots := 0, locals := 45 } : Room) Z #[(.ref x)] h0 (Q_cHC_3 Z x t kb zc c0 c1 c2 h0 n0) 0 0 := by
  refine enter (plainFor_of_name pn_1) ?_
  intro p e s m below meth c s₁ hnm hret hlk D0
  rw [ef_cHC_3 m x]
  refine g_aloadN D0 1 d_jdk_42m78_0 rfl rfl rfl ?_
  refine g_getF D0 4 (hw _ w_47) Via.refl F_h d_jdk_42m78_1 rfl ?_
  intro T191 D191
  refine g_istoreN D191 5 #[.val (.ref x), .val (.int (0 : Int32))] d_jdk_42m78_4 rfl rfl ?_
  refine g_iloadN D191 6 d_jdk_42m78_5 rfl rfl ?_
  refine g_ifN D191 9 d_jdk_42m78_6 (by decide) rfl ?_
  refine g_aloadN D191 10 d_jdk_42m78_9 rfl rfl rfl ?_
  refine g_getF D191 13 (hw _ w_49) Via.refl F_z d_jdk_42m78_10 rfl ?_
  intro T192 D192
  refine g_ifN D192 16 d_jdk_42m78_13 (by decide) rfl ?_
  refine g_aloadN D192 17 d_jdk_42m78_16 rfl rfl rfl ?_
  refine g_callVp D192 20 (hw _ w_51) (hw _ w_52) (notFace_of_selects (args := #[]) (mvT D192.wm (hw _ w_54))) (hw _ w_54) (hw _ w_53) (by decide) ((cIL_0 l Z a0 hw [] x zc h0 n0 Z0 OLD CS hzc F_c).back D192 0 (hw _ w_55) (hw _ w_10) (by decide) (by decide)) E_x rfl [] rfl (lenOf pd_5 rfl) rfl (Nat.le_of_eq rfl) (by decide) (by decide) d_jdk_42m78_17 rfl ?_
  intro v193 T193 q193 D193
  subst q193
  show Go p e below _ (T193.setTop (mkF m 20 #[.val (.ref x), .val (.int (0 : Int32))] [(.int (1 : Int32))]))
  refine g_ifN D193 23 d_jdk_42m78_20 (by decide) rfl ?_
  refine g_aloadN D193 24 d_jdk_42m78_23 rfl rfl rfl ?_
  refine g_getF D193 27 (hw _ w_27) Via.refl F_v d_jdk_42m78_24 rfl ?_
  intro T194 D194
  refine g_callSp D194 30 (hw _ w_57) (hw _ w_58) (hw _ w_59) (hw _ w_60) (by decide) ((cLH_3 l Z a0 hw [] t kb c0 c1 c2 h0 n0 Z0 V_t E_t).back D194 0 (hw _ w_60) (hw _ w_59) (by decide) (by decide)) rfl [(.ref t)] rfl (lenOf pd_6 rfl) rfl (Nat.le_of_eq rfl) (by decide) (by decide) d_jdk_42m78_27 rfl ?_
  intro v195 T195 q195 D195
  obtain ⟨r195, rfl⟩ := q195
  show Go p e below _ (T195.setTop (mkF m 30 #[.val (.ref x), .val (.int (0 : Int32))] [(.int r195)]))
  refine g_goto D195 40 d_jdk_42m78_30 (by decide) (by decide) ?_
  refine g_istoreN D195 41 #[.val (.ref x), .val (.int r195)] d_jdk_42m78_40 rfl rfl ?_
  refine g_iloadN D195 42 d_jdk_42m78_41 rfl rfl ?_
  by_cases z0 : r195 = (0 : Int32)
  · refine g_ifN D195 45 d_jdk_42m78_42 (teq z0).2 rfl ?_
    refine g_aloadN D195 46 d_jdk_42m78_45 rfl rfl rfl ?_
    refine g_iconst D195 47 (1 : Int32) d_jdk_42m78_46 rfl rfl ?_
    refine g_putF D195 50 (hw _ w_49) Via.refl F_z E_x (Or.inl (hw _ w_50)) (hw _ w_9) (ty := .boolean) (by decide) rfl rfl (fun _ _ => trivial) d_jdk_42m78_47 rfl ?_
    intro T196 h196 W196 D196
    have N196 := Fr.snoc D196.st (Fr.nil n0) gx
    have F196 := F_z.same W196
    refine g_goto D196 58 d_jdk_42m78_50 (by decide) (by decide) ?_
    refine g_iloadN D196 59 d_jdk_42m78_58 rfl rfl ?_
    exact r_I D196 hret hlk d_jdk_42m78_59 ⟨⟨_, rfl⟩, N196, ((Keep.refl _ [x]).wr W196 (Or.inl (List.mem_of_getElem? (i := 0) rfl))), t, kb, (E_x.wr W196), (F_c.other W196 (Or.inr (slot_ne (Or.inr (hw _ w_24)) (Or.inl (hw _ w_50)) (by decide) (t := .byte) (t' := .boolean) (by decide) (by decide)))), (F_v.other W196 (Or.inr (slot_ne (Or.inr (hw _ w_23)) (Or.inl (hw _ w_50)) (by decide) (t := (.array .byte)) (t' := .boolean) (by decide) (by decide)))), (V_t.other W196 (Ne.symm (Exa.neArv E_x V_t (hw _ w_9)))), (b8_cons H0 (b8_cons H1 (b8_cons H2 b8_nil))), Nat.le_of_ble_eq_true rfl⟩ (by decide) (by decide)
  refine g_ifY D195 53 d_jdk_42m78_42 (feq z0).2 (by decide) (by decide) ?_
  refine g_aloadN D195 54 d_jdk_42m78_53 rfl rfl rfl ?_
  refine g_iloadN D195 55 d_jdk_42m78_54 rfl rfl ?_
  refine g_putF D195 58 (hw _ w_47) Via.refl F_h E_x (Or.inl (hw _ w_48)) (hw _ w_9) (ty := .int) (by decide) rfl rfl (fun _ _ => trivial) d_jdk_42m78_55 rfl ?_
  intro T197 h197 W197 D197
  have N197 := Fr.snoc D197.st (Fr.nil n0) gx
  have F197 := F_h.same W197
  refine g_iloadN D197 59 d_jdk_42m78_58 rfl rfl ?_
  exact r_I D197 hret hlk d_jdk_42m78_59 ⟨⟨_, rfl⟩, N197, ((Keep.refl _ [x]).wr W197 (Or.inl (List.mem_of_getElem? (i := 0) rfl))), t, kb, (E_x.wr W197), (F_c.other W197 (Or.inr (slot_ne (Or.inr (hw _ w_24)) (Or.inl (hw _ w_48)) (by decide) (t := .byte) (t' := .int) (by decide) (by decide)))), (F_v.other W197 (Or.inr (slot_ne (Or.inr (hw _ w_23)) (Or.inl (hw _ w_48)) (by decide) (t := (.array .byte)) (t' := .int) (by decide) (by decide)))), (V_t.other W197 (Ne.symm (Exa.neArv E_x V_t (hw _ w_9)))), (b8_cons H0 (b8_cons H1 (b8_cons H2 b8_nil))), Nat.le_of_ble_eq_true rfl⟩ (by decide) (by decide)
def Q_cOH_r (Z : State) (x : Addr) (zc : Int32) (cs : List Int32) (h0 : Heap) (n0 : Nat) : Option Value → Heap → List Loc → Prop := (fun v h L => (∃ r, v = some (.int r)) ∧ Fr n0 L ∧ Keep h0 h [x] ∧ LS Z h x cs)
set_option maxRecDepth 65536 in
set_option maxHeartbeats 40000000 in
theorem cOH_r (l : Launch) (Z : State) (a0 : Array Value) (hw : ∀ d ∈ tables_1, d.before a0 Z = true) (ws : List Jvm.Cond) (x : Addr) (zc : Int32) (cs : List Int32) (h0 : Heap) (n0 : Nat) (Z0 : n0 ≤ h0.size) (OLD : Old Z n0 h0) (CS : Sta Z Z.heap "java/lang/String" "COMPACT_STRINGS" "Z" (.int zc)) (hzc : ¬ zc = 0) (X_x : LK Z h0 x cs) (gx : n0 ≤ x) :
    Con l (⟨"java/util/Objects", "hashCode", "(Ljava/lang/Object;)I"⟩ : MethodName) jdk_31_method_4_code 1 (some .int) ws ({ frames := 4, cells := 0, slots := 0, locals := 58 } : Room) Z #[(.ref x)] h0 (Q_cOH_r Z x zc cs h0 n0) 0 0 := by
  refine enter (plainFor_of_name pn_5) ?_
  intro p e s m below meth c s₁ hnm hret hlk D0
  rw [ef_cOH_r m x]
  obtain ⟨t, kb, f1, f2, f3, f4, f5, f6, f7, f8, f9⟩ := X_x
  rcases cs with _ | ⟨c0, _ | ⟨c1, _ | ⟨c2, _ | ⟨c3, cr⟩⟩⟩⟩
  · refine g_aloadN D0 1 d_jdk_31m4_0 rfl rfl rfl ?_
    refine g_nullN D0 4 d_jdk_31m4_1 rfl ?_
    refine g_aloadN D0 5 d_jdk_31m4_4 rfl rfl rfl ?_
    refine g_callV D0 8 (hw _ w_41) (hw _ w_42) (nf_top (args := #[]) (mvT D0.wm (hw _ w_108))) (hw _ w_44) (hw _ w_45) (by decide) ((cHC_0 l Z a0 hw [] x t kb zc  h0 n0 Z0 OLD CS hzc f4 f1 f3 f2 f7 f8 gx ).back D0 0 (hw _ w_46) (hw _ w_10) (by decide) (by decide)) f1 rfl [] rfl (lenOf pd_9 rfl) rfl (Nat.le_of_eq rfl) (by decide) (by decide) (fun _ _ _ _ => trivial) d_jdk_31m4_5 rfl ?_
    intro v198 T198 h198 L198 q198 D198
    obtain ⟨⟨r, rfl⟩, X1⟩ := q198
    rw [List.nil_append] at D198
    show Go p e below _ (T198.setTop (mkF m 8 #[.val (.ref x)] [(.int r)]))
    refine g_goto D198 12 d_jdk_31m4_8 (by decide) (by decide) ?_
    exact r_I D198 hret hlk d_jdk_31m4_12 ⟨⟨_, rfl⟩, X1⟩ (by decide) (by decide)
  · refine g_aloadN D0 1 d_jdk_31m4_0 rfl rfl rfl ?_
    refine g_nullN D0 4 d_jdk_31m4_1 rfl ?_
    refine g_aloadN D0 5 d_jdk_31m4_4 rfl rfl rfl ?_
    refine g_callV D0 8 (hw _ w_41) (hw _ w_42) (nf_top (args := #[]) (mvT D0.wm (hw _ w_108))) (hw _ w_44) (hw _ w_45) (by decide) ((cHC_1 l Z a0 hw [] x t kb zc c0 h0 n0 Z0 OLD CS hzc f4 f1 f3 f2 f7 f8 gx (f5 c0 (List.mem_of_getElem? (i := 0) rfl))).back D0 0 (hw _ w_46) (hw _ w_10) (by decide) (by decide)) f1 rfl [] rfl (lenOf pd_9 rfl) rfl (Nat.le_of_eq rfl) (by decide) (by decide) (fun _ _ _ _ => trivial) d_jdk_31m4_5 rfl ?_
    intro v199 T199 h199 L199 q199 D199
    obtain ⟨⟨r, rfl⟩, X1⟩ := q199
    rw [List.nil_append] at D199
    show Go p e below _ (T199.setTop (mkF m 8 #[.val (.ref x)] [(.int r)]))
    refine g_goto D199 12 d_jdk_31m4_8 (by decide) (by decide) ?_
    exact r_I D199 hret hlk d_jdk_31m4_12 ⟨⟨_, rfl⟩, X1⟩ (by decide) (by decide)
  · have ft := f9.resolve_left (by simp)
    refine g_aloadN D0 1 d_jdk_31m4_0 rfl rfl rfl ?_
    refine g_nullN D0 4 d_jdk_31m4_1 rfl ?_
    refine g_aloadN D0 5 d_jdk_31m4_4 rfl rfl rfl ?_
    refine g_callV D0 8 (hw _ w_41) (hw _ w_42) (nf_top (args := #[]) (mvT D0.wm (hw _ w_108))) (hw _ w_44) (hw _ w_45) (by decide) ((cHC_2 l Z a0 hw [] x t kb zc c0 c1 h0 n0 Z0 OLD CS hzc f4 ft f1 f3 f2 f7 f8 gx (f5 c0 (List.mem_of_getElem? (i := 0) rfl)) (f5 c1 (List.mem_of_getElem? (i := 1) rfl))).back D0 0 (hw _ w_46) (hw _ w_10) (by decide) (by decide)) f1 rfl [] rfl (lenOf pd_9 rfl) rfl (Nat.le_of_eq rfl) (by decide) (by decide) (fun _ _ _ _ => trivial) d_jdk_31m4_5 rfl ?_
    intro v200 T200 h200 L200 q200 D200
    obtain ⟨⟨r, rfl⟩, X1⟩ := q200
    rw [List.nil_append] at D200
    show Go p e below _ (T200.setTop (mkF m 8 #[.val (.ref x)] [(.int r)]))
    refine g_goto D200 12 d_jdk_31m4_8 (by decide) (by decide) ?_
    exact r_I D200 hret hlk d_jdk_31m4_12 ⟨⟨_, rfl⟩, X1⟩ (by decide) (by decide)
  · have ft := f9.resolve_left (by simp)
    refine g_aloadN D0 1 d_jdk_31m4_0 rfl rfl rfl ?_
    refine g_nullN D0 4 d_jdk_31m4_1 rfl ?_
    refine g_aloadN D0 5 d_jdk_31m4_4 rfl rfl rfl ?_
    refine g_callV D0 8 (hw _ w_41) (hw _ w_42) (nf_top (args := #[]) (mvT D0.wm (hw _ w_108))) (hw _ w_44) (hw _ w_45) (by decide) ((cHC_3 l Z a0 hw [] x t kb zc c0 c1 c2 h0 n0 Z0 OLD CS hzc f4 ft f1 f3 f2 f7 f8 gx (f5 c0 (List.mem_of_getElem? (i := 0) rfl)) (f5 c1 (List.mem_of_getElem? (i := 1) rfl)) (f5 c2 (List.mem_of_getElem? (i := 2) rfl))).back D0 0 (hw _ w_46) (hw _ w_10) (by decide) (by decide)) f1 rfl [] rfl (lenOf pd_9 rfl) rfl (Nat.le_of_eq rfl) (by decide) (by decide) (fun _ _ _ _ => trivial) d_jdk_31m4_5 rfl ?_
    intro v201 T201 h201 L201 q201 D201
    obtain ⟨⟨r, rfl⟩, X1⟩ := q201
    rw [List.nil_append] at D201
    show Go p e below _ (T201.setTop (mkF m 8 #[.val (.ref x)] [(.int r)]))
    refine g_goto D201 12 d_jdk_31m4_8 (by decide) (by decide) ?_
    exact r_I D201 hret hlk d_jdk_31m4_12 ⟨⟨_, rfl⟩, X1⟩ (by decide) (by decide)
  · exact absurd f6 (by simp only [List.length_cons]; omega)
set_option maxRecDepth 65536 in
set_option maxHeartbeats 40000000 in
theorem cOH_n (l : Launch) (Z : State) (a0 : Array Value) (hw : ∀ d ∈ tables_1, d.before a0 Z = true) (ws : List Jvm.Cond)  (h0 : Heap) (n0 : Nat) (Z0 : n0 ≤ h0.size)  :
    Con l (⟨"java/util/Objects", "hashCode", "(Ljava/lang/Object;)I"⟩ : MethodName) jdk_31_method_4_code 1 (some .int) ws ({ frames := 0, cells := 0, slots := 0, locals := 0 } : Room) Z #[.null] h0 (fun v h L => (∃ r, v = some (.int r)) ∧ L = [] ∧ h = h0) 0 0 := by
  refine enter (plainFor_of_name pn_5) ?_
  intro p e s m below meth c s₁ hnm hret hlk D0
  rw [ef_cOH_n m]
  refine g_aloadN D0 1 d_jdk_31m4_0 rfl rfl rfl ?_
  refine g_nullY D0 11 d_jdk_31m4_1 (by decide) (by decide) ?_
  refine g_iconst D0 12 (0 : Int32) d_jdk_31m4_11 rfl rfl ?_
  exact r_I D0 hret hlk d_jdk_31m4_12 ⟨⟨_, rfl⟩, rfl, rfl⟩ (by decide) (by decide)
def Q_cCI_nn (Z : State) (b : Addr) (zc : Int32) (h0 : Heap) (n0 : Nat) : Option Value → Heap → List Loc → Prop := (fun v h L => v = none ∧ Fr n0 L ∧ Keep h0 h [b] ∧ Exa Z h b "com/example/pactum/pactum/model/Credentials" ∧ Fld Z h b "com/example/pactum/pactum/model/Credentials" "user" "Ljava/lang/String;" .null ∧ Fld Z h b "com/example/pactum/pactum/model/Credentials" "password" "Ljava/lang/String;" .null)
set_option maxRecDepth 65536 in
set_option maxHeartbeats 40000000 in
theorem cCI_nn (l : Launch) (Z : State) (a0 : Array Value) (hw : ∀ d ∈ tables_1, d.before a0 Z = true) (ws : List Jvm.Cond) (b : Addr) (zc : Int32) (h0 : Heap) (n0 : Nat) (Z0 : n0 ≤ h0.size) (OLD : Old Z n0 h0) (CS : Sta Z Z.heap "java/lang/String" "COMPACT_STRINGS" "Z" (.int zc)) (hzc : ¬ zc = 0) (E_b : Exa Z h0 b "com/example/pactum/pactum/model/Credentials") (F_user : Fld Z h0 b "com/example/pactum/pactum/model/Credentials" "user" "Ljava/lang/String;" .null) (F_password : Fld Z h0 b "com/example/pactum/pactum/model/Credentials" "password" "Ljava/lang/String;" .null) (F_hash : Fld Z h0 b "com/example/pactum/pactum/model/Credentials" "hash" "I" (.int (0 : Int32))) (gb : n0 ≤ b)  :
    Con l (⟨"com/example/pactum/pactum/model/Credentials", "<init>", "(Ljava/lang/String;Ljava/lang/String;)V"⟩ : MethodName) prog_6_method_1_code 3 none ws ({ frames := 5, cells := 0, slots := 0, locals := 72 } : Room) Z #[(.ref b), .null, .null] h0 (Q_cCI_nn Z b zc h0 n0) 0 0 := by
  refine enter (plainFor_of_name pn_6) ?_
  intro p e s m below meth c s₁ hnm hret hlk D0
  rw [ef_cCI_nn m b]
  refine g_aloadN D0 1 d_prog_6m1_0 rfl rfl rfl ?_
  refine g_initO D0 4 (hw _ w_32) (hw _ w_19) (hw _ w_20) rfl d_prog_6m1_1 (by decide) (W := 0) (Nat.le_of_eq rfl) (by decide) rfl ?_
  intro T202 D202
  refine g_aloadN D202 5 d_prog_6m1_4 rfl rfl rfl ?_
  refine g_aloadN D202 6 d_prog_6m1_5 rfl rfl rfl ?_
  refine g_putF D202 9 (hw _ w_33) Via.refl F_user E_b (Or.inr ⟨(hw _ w_34), rfl, hnm⟩) (hw _ w_1) (ty := (.object "java/lang/String")) (by decide) rfl rfl (fun _ _ => trivial) d_prog_6m1_6 rfl ?_
  intro T203 h203 W203 D203
  have N203 := Fr.snoc D203.st (Fr.nil n0) gb
  have F203 := F_user.same W203
  refine g_aloadN D203 10 d_prog_6m1_9 rfl rfl rfl ?_
  refine g_aloadN D203 11 d_prog_6m1_10 rfl rfl rfl ?_
  refine g_putF D203 14 (hw _ w_35) Via.refl (F_password.other W203 (Or.inr (slot_ne (Or.inr (hw _ w_36)) (Or.inr (hw _ w_34)) (by decide) (t := (.object "java/lang/String")) (t' := (.object "java/lang/String")) (by decide) (by decide)))) (E_b.wr W203) (Or.inr ⟨(hw _ w_36), rfl, hnm⟩) (hw _ w_1) (ty := (.object "java/lang/String")) (by decide) rfl rfl (fun _ _ => trivial) d_prog_6m1_11 rfl ?_
  intro T204 h204 W204 D204
  have N204 := Fr.snoc D204.st N203 gb
  have F204 := (F_password.other W203 (Or.inr (slot_ne (Or.inr (hw _ w_36)) (Or.inr (hw _ w_34)) (by decide) (t := (.object "java/lang/String")) (t' := (.object "java/lang/String")) (by decide) (by decide)))).same W204
  refine g_aloadN D204 15 d_prog_6m1_14 rfl rfl rfl ?_
  refine g_bipush D204 17 (31 : Int32) d_prog_6m1_15 rfl rfl ?_
  refine g_aloadN D204 18 d_prog_6m1_17 rfl rfl rfl ?_
  refine g_callSp D204 21 (hw _ w_37) (hw _ w_38) (hw _ w_39) (hw _ w_40) (by decide) ((cOH_n l Z a0 hw [] h204 n0 (Nat.le_trans (Nat.le_trans Z0 (Keep.of_wr W203).1) (Keep.of_wr W204).1)).back D204 2 (hw _ w_40) (hw _ w_39) (by decide) (by decide)) rfl [.null] rfl (lenOf pd_10 rfl) rfl (Nat.le_of_eq rfl) (by decide) (by decide) d_prog_6m1_18 rfl ?_
  intro v205 T205 q205 D205
  obtain ⟨r205, rfl⟩ := q205
  show Go p e below _ (T205.setTop (mkF m 21 #[.val (.ref b), .val .null, .val .null] [(.int r205), (.int (31 : Int32)), (.ref b)]))
  refine g_imul D205 22 d_prog_6m1_21 rfl ?_
  refine g_aloadN D205 23 d_prog_6m1_22 rfl rfl rfl ?_
  refine g_callSp D205 26 (hw _ w_37) (hw _ w_38) (hw _ w_39) (hw _ w_40) (by decide) ((cOH_n l Z a0 hw [] h204 n0 (Nat.le_trans (Nat.le_trans Z0 (Keep.of_wr W203).1) (Keep.of_wr W204).1)).back D205 2 (hw _ w_40) (hw _ w_39) (by decide) (by decide)) rfl [.null] rfl (lenOf pd_10 rfl) rfl (Nat.le_of_eq rfl) (by decide) (by decide) d_prog_6m1_23 rfl ?_
  intro v206 T206 q206 D206
  obtain ⟨r206, rfl⟩ := q206
  show Go p e below _ (T206.setTop (mkF m 26 #[.val (.ref b), .val .null, .val .null] [(.int r206), (.int ((31 : Int32) * r205)), (.ref b)]))
  refine g_iadd D206 27 d_prog_6m1_26 rfl ?_
  refine g_putF D206 30 (hw _ w_61) Via.refl ((F_hash.other W203 (Or.inr (slot_ne (Or.inr (hw _ w_62)) (Or.inr (hw _ w_34)) (by decide) (t := .int) (t' := (.object "java/lang/String")) (by decide) (by decide)))).other W204 (Or.inr (slot_ne (Or.inr (hw _ w_62)) (Or.inr (hw _ w_36)) (by decide) (t := .int) (t' := (.object "java/lang/String")) (by decide) (by decide)))) ((E_b.wr W203).wr W204) (Or.inr ⟨(hw _ w_62), rfl, hnm⟩) (hw _ w_1) (ty := .int) (by decide) rfl rfl (fun _ _ => trivial) d_prog_6m1_27 rfl ?_
  intro T207 h207 W207 D207
  have N207 := Fr.snoc D207.st N204 gb
  have F207 := ((F_hash.other W203 (Or.inr (slot_ne (Or.inr (hw _ w_62)) (Or.inr (hw _ w_34)) (by decide) (t := .int) (t' := (.object "java/lang/String")) (by decide) (by decide)))).other W204 (Or.inr (slot_ne (Or.inr (hw _ w_62)) (Or.inr (hw _ w_36)) (by decide) (t := .int) (t' := (.object "java/lang/String")) (by decide) (by decide)))).same W207
  exact r_V D207 hret hlk d_prog_6m1_30 ⟨rfl, N207, ((((Keep.refl _ [b]).wr W203 (Or.inl (List.mem_of_getElem? (i := 0) rfl))).wr W204 (Or.inl (List.mem_of_getElem? (i := 0) rfl))).wr W207 (Or.inl (List.mem_of_getElem? (i := 0) rfl))), (((E_b.wr W203).wr W204).wr W207), ((F203.other W204 (Or.inr (slot_ne (Or.inr (hw _ w_34)) (Or.inr (hw _ w_36)) (by decide) (t := (.object "java/lang/String")) (t' := (.object "java/lang/String")) (by decide) (by decide)))).other W207 (Or.inr (slot_ne (Or.inr (hw _ w_34)) (Or.inr (hw _ w_62)) (by decide) (t := (.object "java/lang/String")) (t' := .int) (by decide) (by decide)))), (F204.other W207 (Or.inr (slot_ne (Or.inr (hw _ w_36)) (Or.inr (hw _ w_62)) (by decide) (t := (.object "java/lang/String")) (t' := .int) (by decide) (by decide))))⟩ (by decide) (by decide)
def Q_cCI_nr (Z : State) (b pw : Addr) (zc : Int32) (pws : List Int32) (h0 : Heap) (n0 : Nat) : Option Value → Heap → List Loc → Prop := (fun v h L => v = none ∧ Fr n0 L ∧ Keep h0 h [b, pw] ∧ Exa Z h b "com/example/pactum/pactum/model/Credentials" ∧ Fld Z h b "com/example/pactum/pactum/model/Credentials" "user" "Ljava/lang/String;" .null ∧ Fld Z h b "com/example/pactum/pactum/model/Credentials" "password" "Ljava/lang/String;" (.ref pw) ∧ LS Z h pw pws)
set_option maxRecDepth 65536 in
set_option maxHeartbeats 40000000 in
theorem cCI_nr (l : Launch) (Z : State) (a0 : Array Value) (hw : ∀ d ∈ tables_1, d.before a0 Z = true) (ws : List Jvm.Cond) (b pw : Addr) (zc : Int32) (pws : List Int32) (h0 : Heap) (n0 : Nat) (Z0 : n0 ≤ h0.size) (OLD : Old Z n0 h0) (CS : Sta Z Z.heap "java/lang/String" "COMPACT_STRINGS" "Z" (.int zc)) (hzc : ¬ zc = 0) (E_b : Exa Z h0 b "com/example/pactum/pactum/model/Credentials") (F_user : Fld Z h0 b "com/example/pactum/pactum/model/Credentials" "user" "Ljava/lang/String;" .null) (F_password : Fld Z h0 b "com/example/pactum/pactum/model/Credentials" "password" "Ljava/lang/String;" .null) (F_hash : Fld Z h0 b "com/example/pactum/pactum/model/Credentials" "hash" "I" (.int (0 : Int32))) (gb : n0 ≤ b) (X_pw : LK Z h0 pw pws) (gpw : n0 ≤ pw) :
    Con l (⟨"com/example/pactum/pactum/model/Credentials", "<init>", "(Ljava/lang/String;Ljava/lang/String;)V"⟩ : MethodName) prog_6_method_1_code 3 none ws ({ frames := 5, cells := 0, slots := 0, locals := 72 } : Room) Z #[(.ref b), .null, (.ref pw)] h0 (Q_cCI_nr Z b pw zc pws h0 n0) 0 0 := by
  refine enter (plainFor_of_name pn_6) ?_
  intro p e s m below meth c s₁ hnm hret hlk D0
  rw [ef_cCI_nr m b pw]
  refine g_aloadN D0 1 d_prog_6m1_0 rfl rfl rfl ?_
  refine g_initO D0 4 (hw _ w_32) (hw _ w_19) (hw _ w_20) rfl d_prog_6m1_1 (by decide) (W := 0) (Nat.le_of_eq rfl) (by decide) rfl ?_
  intro T208 D208
  refine g_aloadN D208 5 d_prog_6m1_4 rfl rfl rfl ?_
  refine g_aloadN D208 6 d_prog_6m1_5 rfl rfl rfl ?_
  refine g_putF D208 9 (hw _ w_33) Via.refl F_user E_b (Or.inr ⟨(hw _ w_34), rfl, hnm⟩) (hw _ w_1) (ty := (.object "java/lang/String")) (by decide) rfl rfl (fun _ _ => trivial) d_prog_6m1_6 rfl ?_
  intro T209 h209 W209 D209
  have N209 := Fr.snoc D209.st (Fr.nil n0) gb
  have F209 := F_user.same W209
  have Y210 := LK.wrC X_pw E_b (by decide) (hw _ w_1) W209
  refine g_aloadN D209 10 d_prog_6m1_9 rfl rfl rfl ?_
  refine g_aloadN D209 11 d_prog_6m1_10 rfl rfl rfl ?_
  refine g_putF D209 14 (hw _ w_35) Via.refl (F_password.other W209 (Or.inr (slot_ne (Or.inr (hw _ w_36)) (Or.inr (hw _ w_34)) (by decide) (t := (.object "java/lang/String")) (t' := (.object "java/lang/String")) (by decide) (by decide)))) (E_b.wr W209) (Or.inr ⟨(hw _ w_36), rfl, hnm⟩) (hw _ w_1) (ty := (.object "java/lang/String")) (by decide) rfl rfl (fun _ _ => trivial) d_prog_6m1_11 rfl ?_
  intro T211 h211 W211 D211
  have N211 := Fr.snoc D211.st N209 gb
  have F211 := (F_password.other W209 (Or.inr (slot_ne (Or.inr (hw _ w_36)) (Or.inr (hw _ w_34)) (by decide) (t := (.object "java/lang/String")) (t' := (.object "java/lang/String")) (by decide) (by decide)))).same W211
  have Y212 := LK.wrC Y210 (E_b.wr W209) (by decide) (hw _ w_1) W211
  refine g_aloadN D211 15 d_prog_6m1_14 rfl rfl rfl ?_
  refine g_bipush D211 17 (31 : Int32) d_prog_6m1_15 rfl rfl ?_
  refine g_aloadN D211 18 d_prog_6m1_17 rfl rfl rfl ?_
  refine g_callSp D211 21 (hw _ w_37) (hw _ w_38) (hw _ w_39) (hw _ w_40) (by decide) ((cOH_n l Z a0 hw [] h211 n0 (Nat.le_trans (Nat.le_trans Z0 (Keep.of_wr W209).1) (Keep.of_wr W211).1)).back D211 2 (hw _ w_40) (hw _ w_39) (by decide) (by decide)) rfl [.null] rfl (lenOf pd_10 rfl) rfl (Nat.le_of_eq rfl) (by decide) (by decide) d_prog_6m1_18 rfl ?_
  intro v213 T213 q213 D213
  obtain ⟨r213, rfl⟩ := q213
  show Go p e below _ (T213.setTop (mkF m 21 #[.val (.ref b), .val .null, .val (.ref pw)] [(.int r213), (.int (31 : Int32)), (.ref b)]))
  refine g_imul D213 22 d_prog_6m1_21 rfl ?_
  refine g_aloadN D213 23 d_prog_6m1_22 rfl rfl rfl ?_
  refine g_callS D213 26 (hw _ w_37) (hw _ w_38) (hw _ w_39) (hw _ w_40) (by decide) ((cOH_r l Z a0 hw [] pw zc _ h211 n0 (Nat.le_trans (Nat.le_trans Z0 (Keep.of_wr W209).1) (Keep.of_wr W211).1) ((OLD.wr W209 gb).wr W211 gb) CS hzc Y212 gpw).back D213 2 (hw _ w_40) (hw _ w_39) (by decide) (by decide)) rfl [(.ref pw)] rfl (lenOf pd_10 rfl) rfl (Nat.le_of_eq rfl) (by decide) (by decide) (fun _ _ _ _ => trivial) d_prog_6m1_23 rfl ?_
  intro v214 T214 h214 L214 q214 D214
  obtain ⟨⟨r214, rfl⟩, N214, K214, Z214⟩ := q214
  have NF214 := Fr.app N211 N214
  show Go p e below _ (T214.setTop (mkF m 26 #[.val (.ref b), .val .null, .val (.ref pw)] [(.int r214), (.int ((31 : Int32) * r213)), (.ref b)]))
  refine g_iadd D214 27 d_prog_6m1_26 rfl ?_
  refine g_putF D214 30 (hw _ w_61) Via.refl (((F_hash.other W209 (Or.inr (slot_ne (Or.inr (hw _ w_62)) (Or.inr (hw _ w_34)) (by decide) (t := .int) (t' := (.object "java/lang/String")) (by decide) (by decide)))).other W211 (Or.inr (slot_ne (Or.inr (hw _ w_62)) (Or.inr (hw _ w_36)) (by decide) (t := .int) (t' := (.object "java/lang/String")) (by decide) (by decide)))).keep K214 (ninS (Exa.ne E_b X_pw.exa (by decide)) nin0)) (((E_b.wr W209).wr W211).keep K214) (Or.inr ⟨(hw _ w_62), rfl, hnm⟩) (hw _ w_1) (ty := .int) (by decide) rfl rfl (fun _ _ => trivial) d_prog_6m1_27 rfl ?_
  intro T215 h215 W215 D215
  have N215 := Fr.snoc D215.st NF214 gb
  have F215 := (((F_hash.other W209 (Or.inr (slot_ne (Or.inr (hw _ w_62)) (Or.inr (hw _ w_34)) (by decide) (t := .int) (t' := (.object "java/lang/String")) (by decide) (by decide)))).other W211 (Or.inr (slot_ne (Or.inr (hw _ w_62)) (Or.inr (hw _ w_36)) (by decide) (t := .int) (t' := (.object "java/lang/String")) (by decide) (by decide)))).keep K214 (ninS (Exa.ne E_b X_pw.exa (by decide)) nin0)).same W215
  have Y216 := LS.wrC Z214 (((E_b.wr W209).wr W211).keep K214) (by decide) (hw _ w_1) W215
  exact r_V D215 hret hlk d_prog_6m1_30 ⟨rfl, N215, (((((Keep.refl _ [b, pw]).wr W209 (Or.inl (List.mem_of_getElem? (i := 0) rfl))).wr W211 (Or.inl (List.mem_of_getElem? (i := 0) rfl))).trans K214 (allS (Or.inl (List.mem_of_getElem? (i := 1) rfl)) all0)).wr W215 (Or.inl (List.mem_of_getElem? (i := 0) rfl))), ((((E_b.wr W209).wr W211).keep K214).wr W215), (((F209.other W211 (Or.inr (slot_ne (Or.inr (hw _ w_34)) (Or.inr (hw _ w_36)) (by decide) (t := (.object "java/lang/String")) (t' := (.object "java/lang/String")) (by decide) (by decide)))).keep K214 (ninS (Exa.ne E_b X_pw.exa (by decide)) nin0)).other W215 (Or.inr (slot_ne (Or.inr (hw _ w_34)) (Or.inr (hw _ w_62)) (by decide) (t := (.object "java/lang/String")) (t' := .int) (by decide) (by decide)))), ((F211.keep K214 (ninS (Exa.ne E_b X_pw.exa (by decide)) nin0)).other W215 (Or.inr (slot_ne (Or.inr (hw _ w_36)) (Or.inr (hw _ w_62)) (by decide) (t := (.object "java/lang/String")) (t' := .int) (by decide) (by decide)))), Y216⟩ (by decide) (by decide)
def Q_cCI_rn (Z : State) (b u : Addr) (zc : Int32) (us : List Int32) (h0 : Heap) (n0 : Nat) : Option Value → Heap → List Loc → Prop := (fun v h L => v = none ∧ Fr n0 L ∧ Keep h0 h [b, u] ∧ Exa Z h b "com/example/pactum/pactum/model/Credentials" ∧ Fld Z h b "com/example/pactum/pactum/model/Credentials" "user" "Ljava/lang/String;" (.ref u) ∧ Fld Z h b "com/example/pactum/pactum/model/Credentials" "password" "Ljava/lang/String;" .null ∧ LS Z h u us)
set_option maxRecDepth 65536 in
set_option maxHeartbeats 40000000 in
theorem cCI_rn (l : Launch) (Z : State) (a0 : Array Value) (hw : ∀ d ∈ tables_1, d.before a0 Z = true) (ws : List Jvm.Cond) (b u : Addr) (zc : Int32) (us : List Int32) (h0 : Heap) (n0 : Nat) (Z0 : n0 ≤ h0.size) (OLD : Old Z n0 h0) (CS : Sta Z Z.heap "java/lang/String" "COMPACT_STRINGS" "Z" (.int zc)) (hzc : ¬ zc = 0) (E_b : Exa Z h0 b "com/example/pactum/pactum/model/Credentials") (F_user : Fld Z h0 b "com/example/pactum/pactum/model/Credentials" "user" "Ljava/lang/String;" .null) (F_password : Fld Z h0 b "com/example/pactum/pactum/model/Credentials" "password" "Ljava/lang/String;" .null) (F_hash : Fld Z h0 b "com/example/pactum/pactum/model/Credentials" "hash" "I" (.int (0 : Int32))) (gb : n0 ≤ b) (X_u : LK Z h0 u us) (gu : n0 ≤ u) :
    Con l (⟨"com/example/pactum/pactum/model/Credentials", "<init>", "(Ljava/lang/String;Ljava/lang/String;)V"⟩ : MethodName) prog_6_method_1_code 3 none ws ({ frames := 5, cells := 0, slots := 0, locals := 72 } : Room) Z #[(.ref b), (.ref u), .null] h0 (Q_cCI_rn Z b u zc us h0 n0) 0 0 := by
  refine enter (plainFor_of_name pn_6) ?_
  intro p e s m below meth c s₁ hnm hret hlk D0
  rw [ef_cCI_rn m b u]
  refine g_aloadN D0 1 d_prog_6m1_0 rfl rfl rfl ?_
  refine g_initO D0 4 (hw _ w_32) (hw _ w_19) (hw _ w_20) rfl d_prog_6m1_1 (by decide) (W := 0) (Nat.le_of_eq rfl) (by decide) rfl ?_
  intro T217 D217
  refine g_aloadN D217 5 d_prog_6m1_4 rfl rfl rfl ?_
  refine g_aloadN D217 6 d_prog_6m1_5 rfl rfl rfl ?_
  refine g_putF D217 9 (hw _ w_33) Via.refl F_user E_b (Or.inr ⟨(hw _ w_34), rfl, hnm⟩) (hw _ w_1) (ty := (.object "java/lang/String")) (by decide) rfl rfl (fun _ _ => trivial) d_prog_6m1_6 rfl ?_
  intro T218 h218 W218 D218
  have N218 := Fr.snoc D218.st (Fr.nil n0) gb
  have F218 := F_user.same W218
  have Y219 := LK.wrC X_u E_b (by decide) (hw _ w_1) W218
  refine g_aloadN D218 10 d_prog_6m1_9 rfl rfl rfl ?_
  refine g_aloadN D218 11 d_prog_6m1_10 rfl rfl rfl ?_
  refine g_putF D218 14 (hw _ w_35) Via.refl (F_password.other W218 (Or.inr (slot_ne (Or.inr (hw _ w_36)) (Or.inr (hw _ w_34)) (by decide) (t := (.object "java/lang/String")) (t' := (.object "java/lang/String")) (by decide) (by decide)))) (E_b.wr W218) (Or.inr ⟨(hw _ w_36), rfl, hnm⟩) (hw _ w_1) (ty := (.object "java/lang/String")) (by decide) rfl rfl (fun _ _ => trivial) d_prog_6m1_11 rfl ?_
  intro T220 h220 W220 D220
  have N220 := Fr.snoc D220.st N218 gb
  have F220 := (F_password.other W218 (Or.inr (slot_ne (Or.inr (hw _ w_36)) (Or.inr (hw _ w_34)) (by decide) (t := (.object "java/lang/String")) (t' := (.object "java/lang/String")) (by decide) (by decide)))).same W220
  have Y221 := LK.wrC Y219 (E_b.wr W218) (by decide) (hw _ w_1) W220
  refine g_aloadN D220 15 d_prog_6m1_14 rfl rfl rfl ?_
  refine g_bipush D220 17 (31 : Int32) d_prog_6m1_15 rfl rfl ?_
  refine g_aloadN D220 18 d_prog_6m1_17 rfl rfl rfl ?_
  refine g_callS D220 21 (hw _ w_37) (hw _ w_38) (hw _ w_39) (hw _ w_40) (by decide) ((cOH_r l Z a0 hw [] u zc _ h220 n0 (Nat.le_trans (Nat.le_trans Z0 (Keep.of_wr W218).1) (Keep.of_wr W220).1) ((OLD.wr W218 gb).wr W220 gb) CS hzc Y221 gu).back D220 2 (hw _ w_40) (hw _ w_39) (by decide) (by decide)) rfl [(.ref u)] rfl (lenOf pd_10 rfl) rfl (Nat.le_of_eq rfl) (by decide) (by decide) (fun _ _ _ _ => trivial) d_prog_6m1_18 rfl ?_
  intro v222 T222 h222 L222 q222 D222
  obtain ⟨⟨r222, rfl⟩, N222, K222, Z222⟩ := q222
  have NF222 := Fr.app N220 N222
  show Go p e below _ (T222.setTop (mkF m 21 #[.val (.ref b), .val (.ref u), .val .null] [(.int r222), (.int (31 : Int32)), (.ref b)]))
  refine g_imul D222 22 d_prog_6m1_21 rfl ?_
  refine g_aloadN D222 23 d_prog_6m1_22 rfl rfl rfl ?_
  refine g_callSp D222 26 (hw _ w_37) (hw _ w_38) (hw _ w_39) (hw _ w_40) (by decide) ((cOH_n l Z a0 hw [] h222 n0 (Nat.le_trans (Nat.le_trans (Nat.le_trans Z0 (Keep.of_wr W218).1) (Keep.of_wr W220).1) K222.1)).back D222 2 (hw _ w_40) (hw _ w_39) (by decide) (by decide)) rfl [.null] rfl (lenOf pd_10 rfl) rfl (Nat.le_of_eq rfl) (by decide) (by decide) d_prog_6m1_23 rfl ?_
  intro v223 T223 q223 D223
  obtain ⟨r223, rfl⟩ := q223
  show Go p e below _ (T223.setTop (mkF m 26 #[.val (.ref b), .val (.ref u), .val .null] [(.int r223), (.int ((31 : Int32) * r222)), (.ref b)]))
  refine g_iadd D223 27 d_prog_6m1_26 rfl ?_
  refine g_putF D223 30 (hw _ w_61) Via.refl (((F_hash.other W218 (Or.inr (slot_ne (Or.inr (hw _ w_62)) (Or.inr (hw _ w_34)) (by decide) (t := .int) (t' := (.object "java/lang/String")) (by decide) (by decide)))).other W220 (Or.inr (slot_ne (Or.inr (hw _ w_62)) (Or.inr (hw _ w_36)) (by decide) (t := .int) (t' := (.object "java/lang/String")) (by decide) (by decide)))).keep K222 (ninS (Exa.ne E_b X_u.exa (by decide)) nin0)) (((E_b.wr W218).wr W220).keep K222) (Or.inr ⟨(hw _ w_62), rfl, hnm⟩) (hw _ w_1) (ty := .int) (by decide) rfl rfl (fun _ _ => trivial) d_prog_6m1_27 rfl ?_
  intro T224 h224 W224 D224
  have N224 := Fr.snoc D224.st NF222 gb
  have F224 := (((F_hash.other W218 (Or.inr (slot_ne (Or.inr (hw _ w_62)) (Or.inr (hw _ w_34)) (by decide) (t := .int) (t' := (.object "java/lang/String")) (by decide) (by decide)))).other W220 (Or.inr (slot_ne (Or.inr (hw _ w_62)) (Or.inr (hw _ w_36)) (by decide) (t := .int) (t' := (.object "java/lang/String")) (by decide) (by decide)))).keep K222 (ninS (Exa.ne E_b X_u.exa (by decide)) nin0)).same W224
  have Y225 := LS.wrC Z222 (((E_b.wr W218).wr W220).keep K222) (by decide) (hw _ w_1) W224
  exact r_V D224 hret hlk d_prog_6m1_30 ⟨rfl, N224, (((((Keep.refl _ [b, u]).wr W218 (Or.inl (List.mem_of_getElem? (i := 0) rfl))).wr W220 (Or.inl (List.mem_of_getElem? (i := 0) rfl))).trans K222 (allS (Or.inl (List.mem_of_getElem? (i := 1) rfl)) all0)).wr W224 (Or.inl (List.mem_of_getElem? (i := 0) rfl))), ((((E_b.wr W218).wr W220).keep K222).wr W224), (((F218.other W220 (Or.inr (slot_ne (Or.inr (hw _ w_34)) (Or.inr (hw _ w_36)) (by decide) (t := (.object "java/lang/String")) (t' := (.object "java/lang/String")) (by decide) (by decide)))).keep K222 (ninS (Exa.ne E_b X_u.exa (by decide)) nin0)).other W224 (Or.inr (slot_ne (Or.inr (hw _ w_34)) (Or.inr (hw _ w_62)) (by decide) (t := (.object "java/lang/String")) (t' := .int) (by decide) (by decide)))), ((F220.keep K222 (ninS (Exa.ne E_b X_u.exa (by decide)) nin0)).other W224 (Or.inr (slot_ne (Or.inr (hw _ w_36)) (Or.inr (hw _ w_62)) (by decide) (t := (.object "java/lang/String")) (t' := .int) (by decide) (by decide)))), Y225⟩ (by decide) (by decide)
def Q_cCI_rr (Z : State) (b u pw : Addr) (zc : Int32) (us : List Int32) (pws : List Int32) (h0 : Heap) (n0 : Nat) : Option Value → Heap → List Loc → Prop := (fun v h L => v = none ∧ Fr n0 L ∧ Keep h0 h [b, u, pw] ∧ Exa Z h b "com/example/pactum/pactum/model/Credentials" ∧ Fld Z h b "com/example/pactum/pactum/model/Credentials" "user" "Ljava/lang/String;" (.ref u) ∧ Fld Z h b "com/example/pactum/pactum/model/Credentials" "password" "Ljava/lang/String;" (.ref pw) ∧ LS Z h u us ∧ LS Z h pw pws)
set_option maxRecDepth 65536 in
set_option maxHeartbeats 40000000 in
theorem cCI_rr (l : Launch) (Z : State) (a0 : Array Value) (hw : ∀ d ∈ tables_1, d.before a0 Z = true) (ws : List Jvm.Cond) (b u pw : Addr) (zc : Int32) (us : List Int32) (pws : List Int32) (h0 : Heap) (n0 : Nat) (Z0 : n0 ≤ h0.size) (OLD : Old Z n0 h0) (CS : Sta Z Z.heap "java/lang/String" "COMPACT_STRINGS" "Z" (.int zc)) (hzc : ¬ zc = 0) (E_b : Exa Z h0 b "com/example/pactum/pactum/model/Credentials") (F_user : Fld Z h0 b "com/example/pactum/pactum/model/Credentials" "user" "Ljava/lang/String;" .null) (F_password : Fld Z h0 b "com/example/pactum/pactum/model/Credentials" "password" "Ljava/lang/String;" .null) (F_hash : Fld Z h0 b "com/example/pactum/pactum/model/Credentials" "hash" "I" (.int (0 : Int32))) (gb : n0 ≤ b) (X_u : LK Z h0 u us) (gu : n0 ≤ u) (X_pw : LK Z h0 pw pws) (gpw : n0 ≤ pw) (npu : pw ≠ u) :
    Con l (⟨"com/example/pactum/pactum/model/Credentials", "<init>", "(Ljava/lang/String;Ljava/lang/String;)V"⟩ : MethodName) prog_6_method_1_code 3 none ws ({ frames := 5, cells := 0, slots := 0, locals := 72 } : Room) Z #[(.ref b), (.ref u), (.ref pw)] h0 (Q_cCI_rr Z b u pw zc us pws h0 n0) 0 0 := by
  refine enter (plainFor_of_name pn_6) ?_
  intro p e s m below meth c s₁ hnm hret hlk D0
  rw [ef_cCI_rr m b u pw]
  refine g_aloadN D0 1 d_prog_6m1_0 rfl rfl rfl ?_
  refine g_initO D0 4 (hw _ w_32) (hw _ w_19) (hw _ w_20) rfl d_prog_6m1_1 (by decide) (W := 0) (Nat.le_of_eq rfl) (by decide) rfl ?_
  intro T226 D226
  refine g_aloadN D226 5 d_prog_6m1_4 rfl rfl rfl ?_
  refine g_aloadN D226 6 d_prog_6m1_5 rfl rfl rfl ?_
  refine g_putF D226 9 (hw _ w_33) Via.refl F_user E_b (Or.inr ⟨(hw _ w_34), rfl, hnm⟩) (hw _ w_1) (ty := (.object "java/lang/String")) (by decide) rfl rfl (fun _ _ => trivial) d_prog_6m1_6 rfl ?_
  intro T227 h227 W227 D227
  have N227 := Fr.snoc D227.st (Fr.nil n0) gb
  have F227 := F_user.same W227
  have Y228 := LK.wrC X_u E_b (by decide) (hw _ w_1) W227
  have Y229 := LK.wrC X_pw E_b (by decide) (hw _ w_1) W227
  refine g_aloadN D227 10 d_prog_6m1_9 rfl rfl rfl ?_
  refine g_aloadN D227 11 d_prog_6m1_10 rfl rfl rfl ?_
  refine g_putF D227 14 (hw _ w_35) Via.refl (F_password.other W227 (Or.inr (slot_ne (Or.inr (hw _ w_36)) (Or.inr (hw _ w_34)) (by decide) (t := (.object "java/lang/String")) (t' := (.object "java/lang/String")) (by decide) (by decide)))) (E_b.wr W227) (Or.inr ⟨(hw _ w_36), rfl, hnm⟩) (hw _ w_1) (ty := (.object "java/lang/String")) (by decide) rfl rfl (fun _ _ => trivial) d_prog_6m1_11 rfl ?_
  intro T230 h230 W230 D230
  have N230 := Fr.snoc D230.st N227 gb
  have F230 := (F_password.other W227 (Or.inr (slot_ne (Or.inr (hw _ w_36)) (Or.inr (hw _ w_34)) (by decide) (t := (.object "java/lang/String")) (t' := (.object "java/lang/String")) (by decide) (by decide)))).same W230
  have Y231 := LK.wrC Y228 (E_b.wr W227) (by decide) (hw _ w_1) W230
  have Y232 := LK.wrC Y229 (E_b.wr W227) (by decide) (hw _ w_1) W230
  refine g_aloadN D230 15 d_prog_6m1_14 rfl rfl rfl ?_
  refine g_bipush D230 17 (31 : Int32) d_prog_6m1_15 rfl rfl ?_
  refine g_aloadN D230 18 d_prog_6m1_17 rfl rfl rfl ?_
  refine g_callS D230 21 (hw _ w_37) (hw _ w_38) (hw _ w_39) (hw _ w_40) (by decide) ((cOH_r l Z a0 hw [] u zc _ h230 n0 (Nat.le_trans (Nat.le_trans Z0 (Keep.of_wr W227).1) (Keep.of_wr W230).1) ((OLD.wr W227 gb).wr W230 gb) CS hzc Y231 gu).back D230 2 (hw _ w_40) (hw _ w_39) (by decide) (by decide)) rfl [(.ref u)] rfl (lenOf pd_10 rfl) rfl (Nat.le_of_eq rfl) (by decide) (by decide) (fun _ _ _ _ => trivial) d_prog_6m1_18 rfl ?_
  intro v233 T233 h233 L233 q233 D233
  obtain ⟨⟨r233, rfl⟩, N233, K233, Z233⟩ := q233
  have NF233 := Fr.app N230 N233
  show Go p e below _ (T233.setTop (mkF m 21 #[.val (.ref b), .val (.ref u), .val (.ref pw)] [(.int r233), (.int (31 : Int32)), (.ref b)]))
  have Y234 := LK.keepS Y232 Y231.exa npu (hw _ w_9) K233
  refine g_imul D233 22 d_prog_6m1_21 rfl ?_
  refine g_aloadN D233 23 d_prog_6m1_22 rfl rfl rfl ?_
  refine g_callS D233 26 (hw _ w_37) (hw _ w_38) (hw _ w_39) (hw _ w_40) (by decide) ((cOH_r l Z a0 hw [] pw zc _ h233 n0 (Nat.le_trans (Nat.le_trans (Nat.le_trans Z0 (Keep.of_wr W227).1) (Keep.of_wr W230).1) K233.1) (((OLD.wr W227 gb).wr W230 gb).keep K233 (allS gu all0)) CS hzc Y234 gpw).back D233 2 (hw _ w_40) (hw _ w_39) (by decide) (by decide)) rfl [(.ref pw)] rfl (lenOf pd_10 rfl) rfl (Nat.le_of_eq rfl) (by decide) (by decide) (fun _ _ _ _ => trivial) d_prog_6m1_23 rfl ?_
  intro v235 T235 h235 L235 q235 D235
  obtain ⟨⟨r235, rfl⟩, N235, K235, Z235⟩ := q235
  have NF235 := Fr.app NF233 N235
  show Go p e below _ (T235.setTop (mkF m 26 #[.val (.ref b), .val (.ref u), .val (.ref pw)] [(.int r235), (.int ((31 : Int32) * r233)), (.ref b)]))
  have Y236 := LS.keepS Z233 Y234.exa (Ne.symm npu) (hw _ w_9) K235
  refine g_iadd D235 27 d_prog_6m1_26 rfl ?_
  refine g_putF D235 30 (hw _ w_61) Via.refl ((((F_hash.other W227 (Or.inr (slot_ne (Or.inr (hw _ w_62)) (Or.inr (hw _ w_34)) (by decide) (t := .int) (t' := (.object "java/lang/String")) (by decide) (by decide)))).other W230 (Or.inr (slot_ne (Or.inr (hw _ w_62)) (Or.inr (hw _ w_36)) (by decide) (t := .int) (t' := (.object "java/lang/String")) (by decide) (by decide)))).keep K233 (ninS (Exa.ne E_b X_u.exa (by decide)) nin0)).keep K235 (ninS (Exa.ne E_b X_pw.exa (by decide)) nin0)) ((((E_b.wr W227).wr W230).keep K233).keep K235) (Or.inr ⟨(hw _ w_62), rfl, hnm⟩) (hw _ w_1) (ty := .int) (by decide) rfl rfl (fun _ _ => trivial) d_prog_6m1_27 rfl ?_
  intro T237 h237 W237 D237
  have N237 := Fr.snoc D237.st NF235 gb
  have F237 := ((((F_hash.other W227 (Or.inr (slot_ne (Or.inr (hw _ w_62)) (Or.inr (hw _ w_34)) (by decide) (t := .int) (t' := (.object "java/lang/String")) (by decide) (by decide)))).other W230 (Or.inr (slot_ne (Or.inr (hw _ w_62)) (Or.inr (hw _ w_36)) (by decide) (t := .int) (t' := (.object "java/lang/String")) (by decide) (by decide)))).keep K233 (ninS (Exa.ne E_b X_u.exa (by decide)) nin0)).keep K235 (ninS (Exa.ne E_b X_pw.exa (by decide)) nin0)).same W237
  have Y238 := LS.wrC Y236 ((((E_b.wr W227).wr W230).keep K233).keep K235) (by decide) (hw _ w_1) W237
  have Y239 := LS.wrC Z235 ((((E_b.wr W227).wr W230).keep K233).keep K235) (by decide) (hw _ w_1) W237
  exact r_V D237 hret hlk d_prog_6m1_30 ⟨rfl, N237, ((((((Keep.refl _ [b, u, pw]).wr W227 (Or.inl (List.mem_of_getElem? (i := 0) rfl))).wr W230 (Or.inl (List.mem_of_getElem? (i := 0) rfl))).trans K233 (allS (Or.inl (List.mem_of_getElem? (i := 1) rfl)) all0)).trans K235 (allS (Or.inl (List.mem_of_getElem? (i := 2) rfl)) all0)).wr W237 (Or.inl (List.mem_of_getElem? (i := 0) rfl))), (((((E_b.wr W227).wr W230).keep K233).keep K235).wr W237), ((((F227.other W230 (Or.inr (slot_ne (Or.inr (hw _ w_34)) (Or.inr (hw _ w_36)) (by decide) (t := (.object "java/lang/String")) (t' := (.object "java/lang/String")) (by decide) (by decide)))).keep K233 (ninS (Exa.ne E_b X_u.exa (by decide)) nin0)).keep K235 (ninS (Exa.ne E_b X_pw.exa (by decide)) nin0)).other W237 (Or.inr (slot_ne (Or.inr (hw _ w_34)) (Or.inr (hw _ w_62)) (by decide) (t := (.object "java/lang/String")) (t' := .int) (by decide) (by decide)))), (((F230.keep K233 (ninS (Exa.ne E_b X_u.exa (by decide)) nin0)).keep K235 (ninS (Exa.ne E_b X_pw.exa (by decide)) nin0)).other W237 (Or.inr (slot_ne (Or.inr (hw _ w_36)) (Or.inr (hw _ w_62)) (by decide) (t := (.object "java/lang/String")) (t' := .int) (by decide) (by decide)))), Y238, Y239⟩ (by decide) (by decide)
set_option maxRecDepth 65536 in
set_option maxHeartbeats 40000000 in
theorem cSE0 (l : Launch) (Z : State) (a0 : Array Value) (hw : ∀ d ∈ tables_1, d.before a0 Z = true) (ws : List Jvm.Cond) (x : Addr) (h0 : Heap) (n0 : Nat) (Z0 : n0 ≤ h0.size)  :
    Con l (⟨"java/lang/String", "equals", "(Ljava/lang/Object;)Z"⟩ : MethodName) jdk_42_method_66_code 3 (some .boolean) ws ({ frames := 0, cells := 0, slots := 0, locals := 0 } : Room) Z #[(.ref x), .null] h0 (fun v h L => v = some (.int (0 : Int32)) ∧ L = [] ∧ h = h0) 0 0 := by
  refine enter (plainFor_of_name pn_1) ?_
  intro p e s m below meth c s₁ hnm hret hlk D0
  rw [ef_cSE0 m x]
  refine g_aloadN D0 1 d_jdk_42m66_0 rfl rfl rfl ?_
  refine g_aloadN D0 2 d_jdk_42m66_1 rfl rfl rfl ?_
  refine g_acmp D0 7 d_jdk_42m66_2 rfl rfl (same := false) (decide_eq_false fun q => nomatch q) (by decide) (by decide) ?_
  refine g_aloadN D0 8 d_jdk_42m66_7 rfl rfl rfl ?_
  refine g_instNull D0 11 d_jdk_42m66_8 rfl ?_
  refine g_ifY D0 54 d_jdk_42m66_11 (by decide) (by decide) (by decide) ?_
  refine g_iconst D0 55 (0 : Int32) d_jdk_42m66_54 rfl rfl ?_
  exact r_N D0 hret (by simp) hlk d_jdk_42m66_55 ⟨(by decide : some (Value.int (nar .boolean (0 : Int32))) = some (.int 0)), rfl, rfl⟩ (by decide) (by decide)
set_option maxRecDepth 65536 in
set_option maxHeartbeats 40000000 in
theorem cOE_nn (l : Launch) (Z : State) (a0 : Array Value) (hw : ∀ d ∈ tables_1, d.before a0 Z = true) (ws : List Jvm.Cond)  (h0 : Heap) (n0 : Nat) (Z0 : n0 ≤ h0.size)  :
    Con l (⟨"java/util/Objects", "equals", "(Ljava/lang/Object;Ljava/lang/Object;)Z"⟩ : MethodName) jdk_31_method_2_code 2 (some .boolean) ws ({ frames := 3, cells := 0, slots := 0, locals := 44 } : Room) Z #[.null, .null] h0 (fun v h L => own_B ((none : Option (List Int32)) = none) v ∧ L = [] ∧ h = h0) 0 0 := by
  refine enter (plainFor_of_name pn_5) ?_
  intro p e s m below meth c s₁ hnm hret hlk D0
  rw [ef_cOE_nn m]
  refine g_aloadN D0 1 d_jdk_31m2_0 rfl rfl rfl ?_
  refine g_aloadN D0 2 d_jdk_31m2_1 rfl rfl rfl ?_
  refine g_acmp D0 17 d_jdk_31m2_2 rfl rfl (same := true) (decide_eq_true rfl) (by decide) (by decide) ?_
  refine g_iconst D0 18 (1 : Int32) d_jdk_31m2_17 rfl rfl ?_
  refine g_goto D0 22 d_jdk_31m2_18 (by decide) (by decide) ?_
  exact r_N D0 hret (by simp) hlk d_jdk_31m2_22 ⟨⟨_, rfl, Or.inl ⟨own_nar1, rfl⟩⟩, rfl, rfl⟩ (by decide) (by decide)
set_option maxRecDepth 65536 in
set_option maxHeartbeats 40000000 in
theorem cOE_nr (l : Launch) (Z : State) (a0 : Array Value) (hw : ∀ d ∈ tables_1, d.before a0 Z = true) (ws : List Jvm.Cond) (y : Addr) (ds : List Int32) (h0 : Heap) (n0 : Nat) (Z0 : n0 ≤ h0.size)  :
    Con l (⟨"java/util/Objects", "equals", "(Ljava/lang/Object;Ljava/lang/Object;)Z"⟩ : MethodName) jdk_31_method_2_code 2 (some .boolean) ws ({ frames := 3, cells := 0, slots := 0, locals := 44 } : Room) Z #[.null, (.ref y)] h0 (fun v h L => own_B (none = some ds) v ∧ L = [] ∧ h = h0) 0 0 := by
  refine enter (plainFor_of_name pn_5) ?_
  intro p e s m below meth c s₁ hnm hret hlk D0
  rw [ef_cOE_nr m y]
  refine g_aloadN D0 1 d_jdk_31m2_0 rfl rfl rfl ?_
  refine g_aloadN D0 2 d_jdk_31m2_1 rfl rfl rfl ?_
  refine g_acmp D0 5 d_jdk_31m2_2 rfl rfl (same := false) (decide_eq_false fun q => nomatch q) (by decide) (by decide) ?_
  refine g_aloadN D0 6 d_jdk_31m2_5 rfl rfl rfl ?_
  refine g_nullY D0 21 d_jdk_31m2_6 (by decide) (by decide) ?_
  refine g_iconst D0 22 (0 : Int32) d_jdk_31m2_21 rfl rfl ?_
  exact r_N D0 hret (by simp) hlk d_jdk_31m2_22 ⟨⟨_, rfl, Or.inr ⟨own_nar0, (fun q => nomatch q)⟩⟩, rfl, rfl⟩ (by decide) (by decide)
set_option maxRecDepth 65536 in
set_option maxHeartbeats 40000000 in
theorem cOE_rn (l : Launch) (Z : State) (a0 : Array Value) (hw : ∀ d ∈ tables_1, d.before a0 Z = true) (ws : List Jvm.Cond) (x : Addr) (cs : List Int32) (h0 : Heap) (n0 : Nat) (Z0 : n0 ≤ h0.size)  (X_x : LS Z h0 x cs) :
    Con l (⟨"java/util/Objects", "equals", "(Ljava/lang/Object;Ljava/lang/Object;)Z"⟩ : MethodName) jdk_31_method_2_code 2 (some .boolean) ws ({ frames := 3, cells := 0, slots := 0, locals := 44 } : Room) Z #[(.ref x), .null] h0 (fun v h L => own_B (some cs = none) v ∧ L = [] ∧ h = h0) 0 0 := by
  refine enter (plainFor_of_name pn_5) ?_
  intro p e s m below meth c s₁ hnm hret hlk D0
  rw [ef_cOE_rn m x]
  refine g_aloadN D0 1 d_jdk_31m2_0 rfl rfl rfl ?_
  refine g_aloadN D0 2 d_jdk_31m2_1 rfl rfl rfl ?_
  refine g_acmp D0 5 d_jdk_31m2_2 rfl rfl (same := false) (decide_eq_false fun q => nomatch q) (by decide) (by decide) ?_
  refine g_aloadN D0 6 d_jdk_31m2_5 rfl rfl rfl ?_
  refine g_nullN D0 9 d_jdk_31m2_6 rfl ?_
  refine g_aloadN D0 10 d_jdk_31m2_9 rfl rfl rfl ?_
  refine g_aloadN D0 11 d_jdk_31m2_10 rfl rfl rfl ?_
  refine g_callVp D0 14 (hw _ w_95) (hw _ w_96) (nf_top (args := #[]) (mvT D0.wm (hw _ w_108))) (hw _ w_98) (hw _ w_99) (by decide) ((cSE0 l Z a0 hw [] x h0 n0 Z0).back D0 0 (hw _ w_100) (hw _ w_10) (by decide) (by decide)) X_x.exa rfl [.null] rfl (lenOf pd_11 rfl) rfl (Nat.le_of_eq rfl) (by decide) (by decide) d_jdk_31m2_11 rfl ?_
  intro v240 T240 q240 D240
  subst q240
  show Go p e below _ (T240.setTop (mkF m 14 #[.val (.ref x), .val .null] [(.int (0 : Int32))]))
  refine g_ifY D240 21 d_jdk_31m2_14 (by decide) (by decide) (by decide) ?_
  refine g_iconst D240 22 (0 : Int32) d_jdk_31m2_21 rfl rfl ?_
  exact r_N D240 hret (by simp) hlk d_jdk_31m2_22 ⟨⟨_, rfl, Or.inr ⟨own_nar0, (fun q => nomatch q)⟩⟩, rfl, rfl⟩ (by decide) (by decide)
set_option maxRecDepth 65536 in
set_option maxHeartbeats 40000000 in
theorem cOE_rr (l : Launch) (Z : State) (a0 : Array Value) (hw : ∀ d ∈ tables_1, d.before a0 Z = true) (ws : List Jvm.Cond) (x y : Addr) (cs ds : List Int32) (zc : Int32) (h0 : Heap) (n0 : Nat) (Z0 : n0 ≤ h0.size) (OLD : Old Z n0 h0) (CS : Sta Z Z.heap "java/lang/String" "COMPACT_STRINGS" "Z" (.int zc)) (hzc : ¬ zc = 0) (X_x : LS Z h0 x cs) (X_y : LS Z h0 y ds) (hne : x ≠ y) :
    Con l (⟨"java/util/Objects", "equals", "(Ljava/lang/Object;Ljava/lang/Object;)Z"⟩ : MethodName) jdk_31_method_2_code 2 (some .boolean) ws ({ frames := 3, cells := 0, slots := 0, locals := 44 } : Room) Z #[(.ref x), (.ref y)] h0 (fun v h L => own_B (some cs = some ds) v ∧ L = [] ∧ h = h0) 0 0 := by
  refine enter (plainFor_of_name pn_5) ?_
  intro p e s m below meth c s₁ hnm hret hlk D0
  rw [ef_cOE_rr m x y]
  refine g_aloadN D0 1 d_jdk_31m2_0 rfl rfl rfl ?_
  refine g_aloadN D0 2 d_jdk_31m2_1 rfl rfl rfl ?_
  refine g_acmp D0 5 d_jdk_31m2_2 rfl rfl (same := false) (decide_eq_false fun q => hne (Value.ref.inj q)) (by decide) (by decide) ?_
  refine g_aloadN D0 6 d_jdk_31m2_5 rfl rfl rfl ?_
  refine g_nullN D0 9 d_jdk_31m2_6 rfl ?_
  refine g_aloadN D0 10 d_jdk_31m2_9 rfl rfl rfl ?_
  refine g_aloadN D0 11 d_jdk_31m2_10 rfl rfl rfl ?_
  refine g_callVp D0 14 (hw _ w_95) (hw _ w_96) (nf_top (args := #[]) (mvT D0.wm (hw _ w_108))) (hw _ w_98) (hw _ w_99) (by decide) (LS.eqB 0 D0 hw X_x X_y (CS.ext OLD.2) hzc (by decide) (by decide)) X_x.exa rfl [(.ref y)] rfl (lenOf pd_11 rfl) rfl (Nat.le_of_eq rfl) (by decide) (by decide) d_jdk_31m2_11 rfl ?_
  intro v241 T241 q241 D241
  rcases q241 with ⟨rfl, qa⟩ | ⟨rfl, qa⟩
  · show Go p e below _ (T241.setTop (mkF m 14 #[.val (.ref x), .val (.ref y)] [(.int (1 : Int32))]))
    refine g_ifN D241 17 d_jdk_31m2_14 (by decide) rfl ?_
    refine g_iconst D241 18 (1 : Int32) d_jdk_31m2_17 rfl rfl ?_
    refine g_goto D241 22 d_jdk_31m2_18 (by decide) (by decide) ?_
    exact r_N D241 hret (by simp) hlk d_jdk_31m2_22 ⟨⟨_, rfl, Or.inl ⟨own_nar1, congrArg some qa⟩⟩, rfl, rfl⟩ (by decide) (by decide)
  · show Go p e below _ (T241.setTop (mkF m 14 #[.val (.ref x), .val (.ref y)] [(.int (0 : Int32))]))
    refine g_ifY D241 21 d_jdk_31m2_14 (by decide) (by decide) (by decide) ?_
    refine g_iconst D241 22 (0 : Int32) d_jdk_31m2_21 rfl rfl ?_
    exact r_N D241 hret (by simp) hlk d_jdk_31m2_22 ⟨⟨_, rfl, Or.inr ⟨own_nar0, (fun q => qa (Option.some.inj q))⟩⟩, rfl, rfl⟩ (by decide) (by decide)
theorem cOE (l : Launch) (Z : State) (a0 : Array Value) (hw : ∀ d ∈ tables_1, d.before a0 Z = true) (ws : List Jvm.Cond) (v1 v2 : Value) (o1 o2 : Option (List Int32)) (zc : Int32) (h0 : Heap) (n0 : Nat) (Z0 : n0 ≤ h0.size) (OLD : Old Z n0 h0) (CS : Sta Z Z.heap "java/lang/String" "COMPACT_STRINGS" "Z" (.int zc)) (hzc : ¬ zc = 0) (X1 : OSv Z h0 v1 o1) (X2 : OSv Z h0 v2 o2) (hne : ∀ a, v1 = .ref a → v2 = .ref a → False) :
    Con l (⟨"java/util/Objects", "equals", "(Ljava/lang/Object;Ljava/lang/Object;)Z"⟩ : MethodName) jdk_31_method_2_code 2 (some .boolean) ws ({ frames := 3, cells := 0, slots := 0, locals := 44 } : Room) Z #[v1, v2] h0 (fun v h L => own_B (o1 = o2) v ∧ L = [] ∧ h = h0) 0 0 := by
  rcases X1 with ⟨rfl, rfl⟩ | ⟨x, cs, rfl, rfl, X1⟩ <;> rcases X2 with ⟨rfl, rfl⟩ | ⟨y, ds, rfl, rfl, X2⟩
  · exact cOE_nn l Z a0 hw ws h0 n0 Z0
  · exact cOE_nr l Z a0 hw ws y ds h0 n0 Z0
  · exact cOE_rn l Z a0 hw ws x cs h0 n0 Z0 X1
  · exact cOE_rr l Z a0 hw ws x y cs ds zc h0 n0 Z0 OLD CS hzc X1 X2 (fun q => hne x rfl (by rw [q]))
set_option maxRecDepth 65536 in
set_option maxHeartbeats 40000000 in
theorem cEqS (l : Launch) (Z : State) (a0 : Array Value) (hw : ∀ d ∈ tables_1, d.before a0 Z = true) (ws : List Jvm.Cond) (b : Addr) (h0 : Heap) (n0 : Nat) (Z0 : n0 ≤ h0.size)  :
    Con l (⟨"com/example/pactum/pactum/model/Credentials", "equals", "(Ljava/lang/Object;)Z"⟩ : MethodName) prog_6_method_4_code 3 (some .boolean) ws ({ frames := 4, cells := 0, slots := 0, locals := 60 } : Room) Z #[(.ref b), (.ref b)] h0 (fun v h L => v = some (.int (1 : Int32)) ∧ L = [] ∧ h = h0) 0 0 := by
  refine enter (plainFor_of_name pn_6) ?_
  intro p e s m below meth c s₁ hnm hret hlk D0
  rw [ef_cEqS m b b]
  refine g_aloadN D0 1 d_prog_6m4_0 rfl rfl rfl ?_
  refine g_aloadN D0 2 d_prog_6m4_1 rfl rfl rfl ?_
  refine g_acmp D0 45 d_prog_6m4_2 rfl rfl (same := true) (decide_eq_true rfl) (by decide) (by decide) ?_
  refine g_iconst D0 46 (1 : Int32) d_prog_6m4_45 rfl rfl ?_
  refine g_goto D0 50 d_prog_6m4_46 (by decide) (by decide) ?_
  exact r_N D0 hret (by simp) hlk d_prog_6m4_50 ⟨own_r1, rfl, rfl⟩ (by decide) (by decide)
set_option maxRecDepth 65536 in
set_option maxHeartbeats 40000000 in
theorem cEqN (l : Launch) (Z : State) (a0 : Array Value) (hw : ∀ d ∈ tables_1, d.before a0 Z = true) (ws : List Jvm.Cond) (b : Addr) (h0 : Heap) (n0 : Nat) (Z0 : n0 ≤ h0.size)  :
    Con l (⟨"com/example/pactum/pactum/model/Credentials", "equals", "(Ljava/lang/Object;)Z"⟩ : MethodName) prog_6_method_4_code 3 (some .boolean) ws ({ frames := 4, cells := 0, slots := 0, locals := 60 } : Room) Z #[(.ref b), .null] h0 (fun v h L => v = some (.int (0 : Int32)) ∧ L = [] ∧ h = h0) 0 0 := by
  refine enter (plainFor_of_name pn_6) ?_
  intro p e s m below meth c s₁ hnm hret hlk D0
  rw [ef_cEqN m b]
  refine g_aloadN D0 1 d_prog_6m4_0 rfl rfl rfl ?_
  refine g_aloadN D0 2 d_prog_6m4_1 rfl rfl rfl ?_
  refine g_acmp D0 5 d_prog_6m4_2 rfl rfl (same := false) (decide_eq_false fun q => nomatch q) (by decide) (by decide) ?_
  refine g_aloadN D0 6 d_prog_6m4_5 rfl rfl rfl ?_
  refine g_instNull D0 9 d_prog_6m4_6 rfl ?_
  refine g_ifY D0 49 d_prog_6m4_9 (by decide) (by decide) (by decide) ?_
  refine g_iconst D0 50 (0 : Int32) d_prog_6m4_49 rfl rfl ?_
  exact r_N D0 hret (by simp) hlk d_prog_6m4_50 ⟨(by decide : some (Value.int (nar .boolean (0 : Int32))) = some (.int 0)), rfl, rfl⟩ (by decide) (by decide)
set_option maxRecDepth 65536 in
set_option maxHeartbeats 40000000 in
theorem cEqT (l : Launch) (Z : State) (a0 : Array Value) (hw : ∀ d ∈ tables_1, d.before a0 Z = true) (ws : List Jvm.Cond) (b o : Addr) (h0 : Heap) (n0 : Nat) (Z0 : n0 ≤ h0.size) (E_o : Exa Z h0 o "java/lang/String") (hne : b ≠ o) :
    Con l (⟨"com/example/pactum/pactum/model/Credentials", "equals", "(Ljava/lang/Object;)Z"⟩ : MethodName) prog_6_method_4_code 3 (some .boolean) ws ({ frames := 4, cells := 0, slots := 0, locals := 60 } : Room) Z #[(.ref b), (.ref o)] h0 (fun v h L => v = some (.int (0 : Int32)) ∧ L = [] ∧ h = h0) 0 0 := by
  refine enter (plainFor_of_name pn_6) ?_
  intro p e s m below meth c s₁ hnm hret hlk D0
  rw [ef_cEqT m b o]
  refine g_aloadN D0 1 d_prog_6m4_0 rfl rfl rfl ?_
  refine g_aloadN D0 2 d_prog_6m4_1 rfl rfl rfl ?_
  refine g_acmp D0 5 d_prog_6m4_2 rfl rfl (same := false) (decide_eq_false fun q => hne (Value.ref.inj q).symm) (by decide) (by decide) ?_
  refine g_aloadN D0 6 d_prog_6m4_5 rfl rfl rfl ?_
  refine g_instNo D0 9 (hw _ w_90) E_o (own_ninst (hw _ w_107) (hw _ w_108) (hw _ w_1) (by decide) (by decide)) d_prog_6m4_6 rfl ?_
  intro T242 D242
  refine g_ifY D242 49 d_prog_6m4_9 (by decide) (by decide) (by decide) ?_
  refine g_iconst D242 50 (0 : Int32) d_prog_6m4_49 rfl rfl ?_
  exact r_N D242 hret (by simp) hlk d_prog_6m4_50 ⟨(by decide : some (Value.int (nar .boolean (0 : Int32))) = some (.int 0)), rfl, rfl⟩ (by decide) (by decide)
set_option maxRecDepth 65536 in
set_option maxHeartbeats 40000000 in
theorem cEq2 (l : Launch) (Z : State) (a0 : Array Value) (hw : ∀ d ∈ tables_1, d.before a0 Z = true) (ws : List Jvm.Cond) (b o : Addr) (v1 v2 w1 w2 : Value) (o1 o2 p1 p2 : Option (List Int32)) (zc : Int32) (h0 : Heap) (n0 : Nat) (Z0 : n0 ≤ h0.size) (OLD : Old Z n0 h0) (CS : Sta Z Z.heap "java/lang/String" "COMPACT_STRINGS" "Z" (.int zc)) (hzc : ¬ zc = 0) (E_o : Exa Z h0 o "com/example/pactum/pactum/model/Credentials") (hne : b ≠ o) (F1 : Fld Z h0 b "com/example/pactum/pactum/model/Credentials" "user" "Ljava/lang/String;" v1) (F2 : Fld Z h0 o "com/example/pactum/pactum/model/Credentials" "user" "Ljava/lang/String;" v2) (G1 : Fld Z h0 b "com/example/pactum/pactum/model/Credentials" "password" "Ljava/lang/String;" w1) (G2 : Fld Z h0 o "com/example/pactum/pactum/model/Credentials" "password" "Ljava/lang/String;" w2) (X1 : OSv Z h0 v1 o1) (X2 : OSv Z h0 v2 o2) (Y1 : OSv Z h0 w1 p1) (Y2 : OSv Z h0 w2 p2) (hn1 : ∀ a, v1 = .ref a → v2 = .ref a → False) (hn2 : ∀ a, w1 = .ref a → w2 = .ref a → False) :
    Con l (⟨"com/example/pactum/pactum/model/Credentials", "equals", "(Ljava/lang/Object;)Z"⟩ : MethodName) prog_6_method_4_code 3 (some .boolean) ws ({ frames := 4, cells := 0, slots := 0, locals := 60 } : Room) Z #[(.ref b), (.ref o)] h0 (fun v h L => own_B (o1 = o2 ∧ p1 = p2) v ∧ L = [] ∧ h = h0) 0 0 := by
  refine enter (plainFor_of_name pn_6) ?_
  intro p e s m below meth c s₁ hnm hret hlk D0
  rw [ef_cEq2 m b o]
  refine g_aloadN D0 1 d_prog_6m4_0 rfl rfl rfl ?_
  refine g_aloadN D0 2 d_prog_6m4_1 rfl rfl rfl ?_
  refine g_acmp D0 5 d_prog_6m4_2 rfl rfl (same := false) (decide_eq_false fun q => hne (Value.ref.inj q).symm) (by decide) (by decide) ?_
  refine g_aloadN D0 6 d_prog_6m4_5 rfl rfl rfl ?_
  refine g_instY D0 9 (hw _ w_90) (Ins.self E_o) d_prog_6m4_6 rfl ?_
  intro T243 D243
  refine g_ifN D243 12 d_prog_6m4_9 (by decide) rfl ?_
  refine g_aloadN D243 13 d_prog_6m4_12 rfl rfl rfl ?_
  refine g_castY D243 16 (hw _ w_90) (Ins.self E_o) d_prog_6m4_13 rfl ?_
  intro T244 D244
  refine g_astoreN D244 17 #[.val (.ref b), .val (.ref o), .val (.ref o)] d_prog_6m4_16 rfl rfl rfl ?_
  refine g_aloadN D244 18 d_prog_6m4_17 rfl rfl rfl ?_
  refine g_getF D244 21 (hw _ w_33) Via.refl F1 d_prog_6m4_18 rfl ?_
  intro T245 D245
  refine g_aloadN D245 22 d_prog_6m4_21 rfl rfl rfl ?_
  refine g_getF D245 25 (hw _ w_33) Via.refl F2 d_prog_6m4_22 rfl ?_
  intro T246 D246
  refine g_callSp D246 28 (hw _ w_92) (hw _ w_93) (hw _ w_39) (hw _ w_94) (by decide) ((cOE l Z a0 hw [] v1 v2 o1 o2 zc h0 n0 Z0 OLD CS hzc X1 X2 hn1).back D246 0 (hw _ w_94) (hw _ w_39) (by decide) (by decide)) rfl [v1, v2] rfl (lenOf pd_12 rfl) rfl (Nat.le_of_eq rfl) (by decide) (by decide) d_prog_6m4_25 rfl ?_
  intro v247 T247 q247 D247
  obtain ⟨_, rfl, ⟨rfl, e247⟩ | ⟨rfl, e247⟩⟩ := q247
  · show Go p e below _ (T247.setTop (mkF m 28 #[.val (.ref b), .val (.ref o), .val (.ref o)] [(.int (1 : Int32))]))
    refine g_ifN D247 31 d_prog_6m4_28 (by decide) rfl ?_
    refine g_aloadN D247 32 d_prog_6m4_31 rfl rfl rfl ?_
    refine g_getF D247 35 (hw _ w_35) Via.refl G1 d_prog_6m4_32 rfl ?_
    intro T248 D248
    refine g_aloadN D248 36 d_prog_6m4_35 rfl rfl rfl ?_
    refine g_getF D248 39 (hw _ w_35) Via.refl G2 d_prog_6m4_36 rfl ?_
    intro T249 D249
    refine g_callSp D249 42 (hw _ w_92) (hw _ w_93) (hw _ w_39) (hw _ w_94) (by decide) ((cOE l Z a0 hw [] w1 w2 p1 p2 zc h0 n0 Z0 OLD CS hzc Y1 Y2 hn2).back D249 0 (hw _ w_94) (hw _ w_39) (by decide) (by decide)) rfl [w1, w2] rfl (lenOf pd_12 rfl) rfl (Nat.le_of_eq rfl) (by decide) (by decide) d_prog_6m4_39 rfl ?_
    intro v250 T250 q250 D250
    obtain ⟨_, rfl, ⟨rfl, e250⟩ | ⟨rfl, e250⟩⟩ := q250
    · show Go p e below _ (T250.setTop (mkF m 42 #[.val (.ref b), .val (.ref o), .val (.ref o)] [(.int (1 : Int32))]))
      refine g_ifN D250 45 d_prog_6m4_42 (by decide) rfl ?_
      refine g_iconst D250 46 (1 : Int32) d_prog_6m4_45 rfl rfl ?_
      refine g_goto D250 50 d_prog_6m4_46 (by decide) (by decide) ?_
      exact r_N D250 hret (by simp) hlk d_prog_6m4_50 ⟨⟨_, rfl, Or.inl ⟨own_nar1, ⟨e247, e250⟩⟩⟩, rfl, rfl⟩ (by decide) (by decide)
    · show Go p e below _ (T250.setTop (mkF m 42 #[.val (.ref b), .val (.ref o), .val (.ref o)] [(.int (0 : Int32))]))
      refine g_ifY D250 49 d_prog_6m4_42 (by decide) (by decide) (by decide) ?_
      refine g_iconst D250 50 (0 : Int32) d_prog_6m4_49 rfl rfl ?_
      exact r_N D250 hret (by simp) hlk d_prog_6m4_50 ⟨⟨_, rfl, Or.inr ⟨own_nar0, fun q => e250 q.2⟩⟩, rfl, rfl⟩ (by decide) (by decide)
  · show Go p e below _ (T247.setTop (mkF m 28 #[.val (.ref b), .val (.ref o), .val (.ref o)] [(.int (0 : Int32))]))
    refine g_ifY D247 49 d_prog_6m4_28 (by decide) (by decide) (by decide) ?_
    refine g_iconst D247 50 (0 : Int32) d_prog_6m4_49 rfl rfl ?_
    exact r_N D247 hret (by simp) hlk d_prog_6m4_50 ⟨⟨_, rfl, Or.inr ⟨own_nar0, fun q => e247 q.1⟩⟩, rfl, rfl⟩ (by decide) (by decide)
set_option maxRecDepth 65536 in
set_option maxHeartbeats 40000000 in
theorem cSm (l : Launch) (Z : State) (a0 : Array Value) (hw : ∀ d ∈ tables_1, d.before a0 Z = true) (ws : List Jvm.Cond) (i j : Int32) (h0 : Heap) (n0 : Nat) (Z0 : n0 ≤ h0.size)  :
    Con l (⟨"com/example/pactum/pactum/model/CredentialsEqualsPinLaw", "sameStr", "(II)Z"⟩ : MethodName) method_3_code 6 (some .boolean) ws ({ frames := 0, cells := 0, slots := 0, locals := 0 } : Room) Z #[(.int i), (.int j)] h0 (fun v h L => own_B (own_mk i = own_mk j) v ∧ L = [] ∧ h = h0) 0 0 := by
  refine enter (plainFor_of_name pn_2) ?_
  intro p e s m below meth c s₁ hnm hret hlk D0
  rw [ef_cSm m i j]
  refine g_iloadN D0 1 d_method_3_0 rfl rfl ?_
  refine g_iconst D0 2 (3 : Int32) d_method_3_1 rfl rfl ?_
  refine g_iand D0 3 d_method_3_2 rfl ?_
  by_cases z0 : (i &&& (3 : Int32)) = (0 : Int32)
  · refine g_ifN D0 6 d_method_3_3 (teq z0).2 rfl ?_
    refine g_iconst D0 7 (1 : Int32) d_method_3_6 rfl rfl ?_
    refine g_goto D0 11 d_method_3_7 (by decide) (by decide) ?_
    refine g_istoreN D0 12 #[.val (.int i), .val (.int j), .val (.int (1 : Int32)), .unset, .unset, .unset] d_method_3_11 rfl rfl ?_
    refine g_iloadN D0 13 d_method_3_12 rfl rfl ?_
    refine g_iconst D0 14 (3 : Int32) d_method_3_13 rfl rfl ?_
    refine g_iand D0 15 d_method_3_14 rfl ?_
    by_cases z1 : (j &&& (3 : Int32)) = (0 : Int32)
    · refine g_ifN D0 18 d_method_3_15 (teq z1).2 rfl ?_
      refine g_iconst D0 19 (1 : Int32) d_method_3_18 rfl rfl ?_
      refine g_goto D0 23 d_method_3_19 (by decide) (by decide) ?_
      refine g_istoreN D0 24 #[.val (.int i), .val (.int j), .val (.int (1 : Int32)), .val (.int (1 : Int32)), .unset, .unset] d_method_3_23 rfl rfl ?_
      refine g_iloadN D0 25 d_method_3_24 rfl rfl ?_
      refine g_ifY D0 32 d_method_3_25 (by decide) (by decide) (by decide) ?_
      refine g_iloadN D0 33 d_method_3_32 rfl rfl ?_
      refine g_ifN D0 36 d_method_3_33 (by decide) rfl ?_
      refine g_iloadN D0 37 d_method_3_36 rfl rfl ?_
      refine g_ifN D0 40 d_method_3_37 (by decide) rfl ?_
      refine g_iconst D0 41 (1 : Int32) d_method_3_40 rfl rfl ?_
      refine g_goto D0 45 d_method_3_41 (by decide) (by decide) ?_
      exact r_N D0 hret (by simp) hlk d_method_3_45 ⟨⟨_, rfl, Or.inl ⟨own_nar1, (own_l0 z0 z1)⟩⟩, rfl, rfl⟩ (by decide) (by decide)
    refine g_ifY D0 22 d_method_3_15 (feq z1).2 (by decide) (by decide) ?_
    refine g_iconst D0 23 (0 : Int32) d_method_3_22 rfl rfl ?_
    refine g_istoreN D0 24 #[.val (.int i), .val (.int j), .val (.int (1 : Int32)), .val (.int (0 : Int32)), .unset, .unset] d_method_3_23 rfl rfl ?_
    refine g_iloadN D0 25 d_method_3_24 rfl rfl ?_
    refine g_ifY D0 32 d_method_3_25 (by decide) (by decide) (by decide) ?_
    refine g_iloadN D0 33 d_method_3_32 rfl rfl ?_
    refine g_ifN D0 36 d_method_3_33 (by decide) rfl ?_
    refine g_iloadN D0 37 d_method_3_36 rfl rfl ?_
    refine g_ifY D0 44 d_method_3_37 (by decide) (by decide) (by decide) ?_
    refine g_iconst D0 45 (0 : Int32) d_method_3_44 rfl rfl ?_
    exact r_N D0 hret (by simp) hlk d_method_3_45 ⟨⟨_, rfl, Or.inr ⟨own_nar0, (own_l1 z0 z1)⟩⟩, rfl, rfl⟩ (by decide) (by decide)
  refine g_ifY D0 10 d_method_3_3 (feq z0).2 (by decide) (by decide) ?_
  refine g_iconst D0 11 (0 : Int32) d_method_3_10 rfl rfl ?_
  refine g_istoreN D0 12 #[.val (.int i), .val (.int j), .val (.int (0 : Int32)), .unset, .unset, .unset] d_method_3_11 rfl rfl ?_
  refine g_iloadN D0 13 d_method_3_12 rfl rfl ?_
  refine g_iconst D0 14 (3 : Int32) d_method_3_13 rfl rfl ?_
  refine g_iand D0 15 d_method_3_14 rfl ?_
  by_cases z1 : (j &&& (3 : Int32)) = (0 : Int32)
  · refine g_ifN D0 18 d_method_3_15 (teq z1).2 rfl ?_
    refine g_iconst D0 19 (1 : Int32) d_method_3_18 rfl rfl ?_
    refine g_goto D0 23 d_method_3_19 (by decide) (by decide) ?_
    refine g_istoreN D0 24 #[.val (.int i), .val (.int j), .val (.int (0 : Int32)), .val (.int (1 : Int32)), .unset, .unset] d_method_3_23 rfl rfl ?_
    refine g_iloadN D0 25 d_method_3_24 rfl rfl ?_
    refine g_ifN D0 28 d_method_3_25 (by decide) rfl ?_
    refine g_iloadN D0 29 d_method_3_28 rfl rfl ?_
    refine g_ifN D0 32 d_method_3_29 (by decide) rfl ?_
    refine g_iloadN D0 33 d_method_3_32 rfl rfl ?_
    refine g_ifY D0 44 d_method_3_33 (by decide) (by decide) (by decide) ?_
    refine g_iconst D0 45 (0 : Int32) d_method_3_44 rfl rfl ?_
    exact r_N D0 hret (by simp) hlk d_method_3_45 ⟨⟨_, rfl, Or.inr ⟨own_nar0, (own_l2 z0 z1)⟩⟩, rfl, rfl⟩ (by decide) (by decide)
  refine g_ifY D0 22 d_method_3_15 (feq z1).2 (by decide) (by decide) ?_
  refine g_iconst D0 23 (0 : Int32) d_method_3_22 rfl rfl ?_
  refine g_istoreN D0 24 #[.val (.int i), .val (.int j), .val (.int (0 : Int32)), .val (.int (0 : Int32)), .unset, .unset] d_method_3_23 rfl rfl ?_
  refine g_iloadN D0 25 d_method_3_24 rfl rfl ?_
  refine g_ifN D0 28 d_method_3_25 (by decide) rfl ?_
  refine g_iloadN D0 29 d_method_3_28 rfl rfl ?_
  refine g_ifY D0 46 d_method_3_29 (by decide) (by decide) (by decide) ?_
  refine g_iloadN D0 47 d_method_3_46 rfl rfl ?_
  refine g_iconst D0 48 (2 : Int32) d_method_3_47 rfl rfl ?_
  refine g_iushr D0 49 d_method_3_48 rfl ?_
  refine g_iconst D0 50 (3 : Int32) d_method_3_49 rfl rfl ?_
  refine g_iand D0 51 d_method_3_50 rfl ?_
  refine g_istore D0 53 #[.val (.int i), .val (.int j), .val (.int (0 : Int32)), .val (.int (0 : Int32)), .val (.int ((XT.ushr i (2 : Int32)) &&& (3 : Int32))), .unset] d_method_3_51 rfl rfl ?_
  refine g_iloadN D0 54 d_method_3_53 rfl rfl ?_
  refine g_iconst D0 55 (2 : Int32) d_method_3_54 rfl rfl ?_
  refine g_iushr D0 56 d_method_3_55 rfl ?_
  refine g_iconst D0 57 (3 : Int32) d_method_3_56 rfl rfl ?_
  refine g_iand D0 58 d_method_3_57 rfl ?_
  refine g_istore D0 60 #[.val (.int i), .val (.int j), .val (.int (0 : Int32)), .val (.int (0 : Int32)), .val (.int ((XT.ushr i (2 : Int32)) &&& (3 : Int32))), .val (.int ((XT.ushr j (2 : Int32)) &&& (3 : Int32)))] d_method_3_58 rfl rfl ?_
  refine g_iload D0 62 d_method_3_60 rfl rfl ?_
  refine g_iload D0 64 d_method_3_62 rfl rfl ?_
  by_cases z2 : ((XT.ushr i (2 : Int32)) &&& (3 : Int32)) = ((XT.ushr j (2 : Int32)) &&& (3 : Int32))
  · refine g_icmpY D0 69 d_method_3_64 (teq z2).1 (by decide) (by decide) ?_
    refine g_iload D0 71 d_method_3_69 rfl rfl ?_
    by_cases z3 : (0 : Int32) < ((XT.ushr i (2 : Int32)) &&& (3 : Int32))
    · refine g_ifN D0 74 d_method_3_71 (tlt z3).2.2.2 rfl ?_
      refine g_iloadN D0 75 d_method_3_74 rfl rfl ?_
      refine g_iconst D0 76 (4 : Int32) d_method_3_75 rfl rfl ?_
      refine g_iushr D0 77 d_method_3_76 rfl ?_
      refine g_sipush D0 80 (255 : Int32) d_method_3_77 rfl rfl ?_
      refine g_iand D0 81 d_method_3_80 rfl ?_
      refine g_iloadN D0 82 d_method_3_81 rfl rfl ?_
      refine g_iconst D0 83 (4 : Int32) d_method_3_82 rfl rfl ?_
      refine g_iushr D0 84 d_method_3_83 rfl ?_
      refine g_sipush D0 87 (255 : Int32) d_method_3_84 rfl rfl ?_
      refine g_iand D0 88 d_method_3_87 rfl ?_
      by_cases z4 : ((XT.ushr i (4 : Int32)) &&& (255 : Int32)) = ((XT.ushr j (4 : Int32)) &&& (255 : Int32))
      · refine g_icmpY D0 93 d_method_3_88 (teq z4).1 (by decide) (by decide) ?_
        refine g_iload D0 95 d_method_3_93 rfl rfl ?_
        refine g_iconst D0 96 (1 : Int32) d_method_3_95 rfl rfl ?_
        by_cases z5 : (1 : Int32) < ((XT.ushr i (2 : Int32)) &&& (3 : Int32))
        · refine g_icmpN D0 99 d_method_3_96 (tlt z5).2.2.2 rfl ?_
          refine g_iloadN D0 100 d_method_3_99 rfl rfl ?_
          refine g_bipush D0 102 (12 : Int32) d_method_3_100 rfl rfl ?_
          refine g_iushr D0 103 d_method_3_102 rfl ?_
          refine g_sipush D0 106 (255 : Int32) d_method_3_103 rfl rfl ?_
          refine g_iand D0 107 d_method_3_106 rfl ?_
          refine g_iloadN D0 108 d_method_3_107 rfl rfl ?_
          refine g_bipush D0 110 (12 : Int32) d_method_3_108 rfl rfl ?_
          refine g_iushr D0 111 d_method_3_110 rfl ?_
          refine g_sipush D0 114 (255 : Int32) d_method_3_111 rfl rfl ?_
          refine g_iand D0 115 d_method_3_114 rfl ?_
          by_cases z6 : ((XT.ushr i (12 : Int32)) &&& (255 : Int32)) = ((XT.ushr j (12 : Int32)) &&& (255 : Int32))
          · refine g_icmpY D0 120 d_method_3_115 (teq z6).1 (by decide) (by decide) ?_
            refine g_iload D0 122 d_method_3_120 rfl rfl ?_
            refine g_iconst D0 123 (2 : Int32) d_method_3_122 rfl rfl ?_
            by_cases z7 : (2 : Int32) < ((XT.ushr i (2 : Int32)) &&& (3 : Int32))
            · refine g_icmpN D0 126 d_method_3_123 (tlt z7).2.2.2 rfl ?_
              refine g_iloadN D0 127 d_method_3_126 rfl rfl ?_
              refine g_bipush D0 129 (20 : Int32) d_method_3_127 rfl rfl ?_
              refine g_iushr D0 130 d_method_3_129 rfl ?_
              refine g_sipush D0 133 (255 : Int32) d_method_3_130 rfl rfl ?_
              refine g_iand D0 134 d_method_3_133 rfl ?_
              refine g_iloadN D0 135 d_method_3_134 rfl rfl ?_
              refine g_bipush D0 137 (20 : Int32) d_method_3_135 rfl rfl ?_
              refine g_iushr D0 138 d_method_3_137 rfl ?_
              refine g_sipush D0 141 (255 : Int32) d_method_3_138 rfl rfl ?_
              refine g_iand D0 142 d_method_3_141 rfl ?_
              by_cases z8 : ((XT.ushr i (20 : Int32)) &&& (255 : Int32)) = ((XT.ushr j (20 : Int32)) &&& (255 : Int32))
              · refine g_icmpY D0 147 d_method_3_142 (teq z8).1 (by decide) (by decide) ?_
                refine g_iconst D0 148 (1 : Int32) d_method_3_147 rfl rfl ?_
                exact r_N D0 hret (by simp) hlk d_method_3_148 ⟨⟨_, rfl, Or.inl ⟨own_nar1, (own_l3 z0 z1 z2 z3 z4 z5 z6 z7 z8)⟩⟩, rfl, rfl⟩ (by decide) (by decide)
              refine g_icmpN D0 145 d_method_3_142 (feq z8).1 rfl ?_
              refine g_iconst D0 146 (0 : Int32) d_method_3_145 rfl rfl ?_
              exact r_N D0 hret (by simp) hlk d_method_3_146 ⟨⟨_, rfl, Or.inr ⟨own_nar0, (own_l4 z0 z1 z2 z3 z4 z5 z6 z7 z8)⟩⟩, rfl, rfl⟩ (by decide) (by decide)
            refine g_icmpY D0 147 d_method_3_123 (flt z7).2.2.2 (by decide) (by decide) ?_
            refine g_iconst D0 148 (1 : Int32) d_method_3_147 rfl rfl ?_
            exact r_N D0 hret (by simp) hlk d_method_3_148 ⟨⟨_, rfl, Or.inl ⟨own_nar1, (own_l5 z0 z1 z2 z3 z4 z5 z6 z7)⟩⟩, rfl, rfl⟩ (by decide) (by decide)
          refine g_icmpN D0 118 d_method_3_115 (feq z6).1 rfl ?_
          refine g_iconst D0 119 (0 : Int32) d_method_3_118 rfl rfl ?_
          exact r_N D0 hret (by simp) hlk d_method_3_119 ⟨⟨_, rfl, Or.inr ⟨own_nar0, (own_l6 z0 z1 z2 z3 z4 z5 z6)⟩⟩, rfl, rfl⟩ (by decide) (by decide)
        refine g_icmpY D0 120 d_method_3_96 (flt z5).2.2.2 (by decide) (by decide) ?_
        refine g_iload D0 122 d_method_3_120 rfl rfl ?_
        refine g_iconst D0 123 (2 : Int32) d_method_3_122 rfl rfl ?_
        by_cases z6 : (2 : Int32) < ((XT.ushr i (2 : Int32)) &&& (3 : Int32))
        · refine g_icmpN D0 126 d_method_3_123 (tlt z6).2.2.2 rfl ?_
          refine g_iloadN D0 127 d_method_3_126 rfl rfl ?_
          refine g_bipush D0 129 (20 : Int32) d_method_3_127 rfl rfl ?_
          refine g_iushr D0 130 d_method_3_129 rfl ?_
          refine g_sipush D0 133 (255 : Int32) d_method_3_130 rfl rfl ?_
          refine g_iand D0 134 d_method_3_133 rfl ?_
          refine g_iloadN D0 135 d_method_3_134 rfl rfl ?_
          refine g_bipush D0 137 (20 : Int32) d_method_3_135 rfl rfl ?_
          refine g_iushr D0 138 d_method_3_137 rfl ?_
          refine g_sipush D0 141 (255 : Int32) d_method_3_138 rfl rfl ?_
          refine g_iand D0 142 d_method_3_141 rfl ?_
          by_cases z7 : ((XT.ushr i (20 : Int32)) &&& (255 : Int32)) = ((XT.ushr j (20 : Int32)) &&& (255 : Int32))
          · refine g_icmpY D0 147 d_method_3_142 (teq z7).1 (by decide) (by decide) ?_
            refine g_iconst D0 148 (1 : Int32) d_method_3_147 rfl rfl ?_
            exact r_N D0 hret (by simp) hlk d_method_3_148 ⟨⟨_, rfl, Or.inl ⟨own_nar1, (own_l7 z0 z1 z2 z3 z4 z5 z6 z7)⟩⟩, rfl, rfl⟩ (by decide) (by decide)
          refine g_icmpN D0 145 d_method_3_142 (feq z7).1 rfl ?_
          refine g_iconst D0 146 (0 : Int32) d_method_3_145 rfl rfl ?_
          exact r_N D0 hret (by simp) hlk d_method_3_146 ⟨⟨_, rfl, Or.inr ⟨own_nar0, (own_l8 z0 z1 z2 z3 z4 z5 z6 z7)⟩⟩, rfl, rfl⟩ (by decide) (by decide)
        refine g_icmpY D0 147 d_method_3_123 (flt z6).2.2.2 (by decide) (by decide) ?_
        refine g_iconst D0 148 (1 : Int32) d_method_3_147 rfl rfl ?_
        exact r_N D0 hret (by simp) hlk d_method_3_148 ⟨⟨_, rfl, Or.inl ⟨own_nar1, (own_l9 z0 z1 z2 z3 z4 z5 z6)⟩⟩, rfl, rfl⟩ (by decide) (by decide)
      refine g_icmpN D0 91 d_method_3_88 (feq z4).1 rfl ?_
      refine g_iconst D0 92 (0 : Int32) d_method_3_91 rfl rfl ?_
      exact r_N D0 hret (by simp) hlk d_method_3_92 ⟨⟨_, rfl, Or.inr ⟨own_nar0, (own_l10 z0 z1 z2 z3 z4)⟩⟩, rfl, rfl⟩ (by decide) (by decide)
    refine g_ifY D0 93 d_method_3_71 (flt z3).2.2.2 (by decide) (by decide) ?_
    refine g_iload D0 95 d_method_3_93 rfl rfl ?_
    refine g_iconst D0 96 (1 : Int32) d_method_3_95 rfl rfl ?_
    by_cases z4 : (1 : Int32) < ((XT.ushr i (2 : Int32)) &&& (3 : Int32))
    · refine g_icmpN D0 99 d_method_3_96 (tlt z4).2.2.2 rfl ?_
      refine g_iloadN D0 100 d_method_3_99 rfl rfl ?_
      refine g_bipush D0 102 (12 : Int32) d_method_3_100 rfl rfl ?_
      refine g_iushr D0 103 d_method_3_102 rfl ?_
      refine g_sipush D0 106 (255 : Int32) d_method_3_103 rfl rfl ?_
      refine g_iand D0 107 d_method_3_106 rfl ?_
      refine g_iloadN D0 108 d_method_3_107 rfl rfl ?_
      refine g_bipush D0 110 (12 : Int32) d_method_3_108 rfl rfl ?_
      refine g_iushr D0 111 d_method_3_110 rfl ?_
      refine g_sipush D0 114 (255 : Int32) d_method_3_111 rfl rfl ?_
      refine g_iand D0 115 d_method_3_114 rfl ?_
      by_cases z5 : ((XT.ushr i (12 : Int32)) &&& (255 : Int32)) = ((XT.ushr j (12 : Int32)) &&& (255 : Int32))
      · refine g_icmpY D0 120 d_method_3_115 (teq z5).1 (by decide) (by decide) ?_
        refine g_iload D0 122 d_method_3_120 rfl rfl ?_
        refine g_iconst D0 123 (2 : Int32) d_method_3_122 rfl rfl ?_
        by_cases z6 : (2 : Int32) < ((XT.ushr i (2 : Int32)) &&& (3 : Int32))
        · refine g_icmpN D0 126 d_method_3_123 (tlt z6).2.2.2 rfl ?_
          refine g_iloadN D0 127 d_method_3_126 rfl rfl ?_
          refine g_bipush D0 129 (20 : Int32) d_method_3_127 rfl rfl ?_
          refine g_iushr D0 130 d_method_3_129 rfl ?_
          refine g_sipush D0 133 (255 : Int32) d_method_3_130 rfl rfl ?_
          refine g_iand D0 134 d_method_3_133 rfl ?_
          refine g_iloadN D0 135 d_method_3_134 rfl rfl ?_
          refine g_bipush D0 137 (20 : Int32) d_method_3_135 rfl rfl ?_
          refine g_iushr D0 138 d_method_3_137 rfl ?_
          refine g_sipush D0 141 (255 : Int32) d_method_3_138 rfl rfl ?_
          refine g_iand D0 142 d_method_3_141 rfl ?_
          by_cases z7 : ((XT.ushr i (20 : Int32)) &&& (255 : Int32)) = ((XT.ushr j (20 : Int32)) &&& (255 : Int32))
          · refine g_icmpY D0 147 d_method_3_142 (teq z7).1 (by decide) (by decide) ?_
            refine g_iconst D0 148 (1 : Int32) d_method_3_147 rfl rfl ?_
            exact r_N D0 hret (by simp) hlk d_method_3_148 ⟨⟨_, rfl, Or.inl ⟨own_nar1, (own_l11 z0 z1 z2 z3 z4 z5 z6 z7)⟩⟩, rfl, rfl⟩ (by decide) (by decide)
          refine g_icmpN D0 145 d_method_3_142 (feq z7).1 rfl ?_
          refine g_iconst D0 146 (0 : Int32) d_method_3_145 rfl rfl ?_
          exact r_N D0 hret (by simp) hlk d_method_3_146 ⟨⟨_, rfl, Or.inr ⟨own_nar0, (own_l12 z0 z1 z2 z3 z4 z5 z6 z7)⟩⟩, rfl, rfl⟩ (by decide) (by decide)
        refine g_icmpY D0 147 d_method_3_123 (flt z6).2.2.2 (by decide) (by decide) ?_
        refine g_iconst D0 148 (1 : Int32) d_method_3_147 rfl rfl ?_
        exact r_N D0 hret (by simp) hlk d_method_3_148 ⟨⟨_, rfl, Or.inl ⟨own_nar1, (own_l13 z0 z1 z2 z3 z4 z5 z6)⟩⟩, rfl, rfl⟩ (by decide) (by decide)
      refine g_icmpN D0 118 d_method_3_115 (feq z5).1 rfl ?_
      refine g_iconst D0 119 (0 : Int32) d_method_3_118 rfl rfl ?_
      exact r_N D0 hret (by simp) hlk d_method_3_119 ⟨⟨_, rfl, Or.inr ⟨own_nar0, (own_l14 z0 z1 z2 z3 z4 z5)⟩⟩, rfl, rfl⟩ (by decide) (by decide)
    refine g_icmpY D0 120 d_method_3_96 (flt z4).2.2.2 (by decide) (by decide) ?_
    refine g_iload D0 122 d_method_3_120 rfl rfl ?_
    refine g_iconst D0 123 (2 : Int32) d_method_3_122 rfl rfl ?_
    by_cases z5 : (2 : Int32) < ((XT.ushr i (2 : Int32)) &&& (3 : Int32))
    · refine g_icmpN D0 126 d_method_3_123 (tlt z5).2.2.2 rfl ?_
      refine g_iloadN D0 127 d_method_3_126 rfl rfl ?_
      refine g_bipush D0 129 (20 : Int32) d_method_3_127 rfl rfl ?_
      refine g_iushr D0 130 d_method_3_129 rfl ?_
      refine g_sipush D0 133 (255 : Int32) d_method_3_130 rfl rfl ?_
      refine g_iand D0 134 d_method_3_133 rfl ?_
      refine g_iloadN D0 135 d_method_3_134 rfl rfl ?_
      refine g_bipush D0 137 (20 : Int32) d_method_3_135 rfl rfl ?_
      refine g_iushr D0 138 d_method_3_137 rfl ?_
      refine g_sipush D0 141 (255 : Int32) d_method_3_138 rfl rfl ?_
      refine g_iand D0 142 d_method_3_141 rfl ?_
      by_cases z6 : ((XT.ushr i (20 : Int32)) &&& (255 : Int32)) = ((XT.ushr j (20 : Int32)) &&& (255 : Int32))
      · refine g_icmpY D0 147 d_method_3_142 (teq z6).1 (by decide) (by decide) ?_
        refine g_iconst D0 148 (1 : Int32) d_method_3_147 rfl rfl ?_
        exact r_N D0 hret (by simp) hlk d_method_3_148 ⟨⟨_, rfl, Or.inl ⟨own_nar1, (own_l15 z0 z1 z2 z3 z4 z5 z6)⟩⟩, rfl, rfl⟩ (by decide) (by decide)
      refine g_icmpN D0 145 d_method_3_142 (feq z6).1 rfl ?_
      refine g_iconst D0 146 (0 : Int32) d_method_3_145 rfl rfl ?_
      exact r_N D0 hret (by simp) hlk d_method_3_146 ⟨⟨_, rfl, Or.inr ⟨own_nar0, (own_l16 z0 z1 z2 z3 z4 z5 z6)⟩⟩, rfl, rfl⟩ (by decide) (by decide)
    refine g_icmpY D0 147 d_method_3_123 (flt z5).2.2.2 (by decide) (by decide) ?_
    refine g_iconst D0 148 (1 : Int32) d_method_3_147 rfl rfl ?_
    exact r_N D0 hret (by simp) hlk d_method_3_148 ⟨⟨_, rfl, Or.inl ⟨own_nar1, (own_l17 z0 z1 z2 z3 z4 z5)⟩⟩, rfl, rfl⟩ (by decide) (by decide)
  refine g_icmpN D0 67 d_method_3_64 (feq z2).1 rfl ?_
  refine g_iconst D0 68 (0 : Int32) d_method_3_67 rfl rfl ?_
  exact r_N D0 hret (by simp) hlk d_method_3_68 ⟨⟨_, rfl, Or.inr ⟨own_nar0, (own_l18 z0 z1 z2)⟩⟩, rfl, rfl⟩ (by decide) (by decide)
set_option maxRecDepth 65536 in
set_option maxHeartbeats 40000000 in
theorem cX (l : Launch) (Z : State) (a0 : Array Value) (hw : ∀ d ∈ tables_1, d.before a0 Z = true) (ws : List Jvm.Cond) (i0 i1 i2 i3 i4 i5 zc : Int32) (G0 : Addr) (h0 : Heap) (n0 : Nat) (Z0 : n0 ≤ h0.size) (hEW : EW Z a0 consts_1) (OLD : Old Z n0 h0) (CS : Sta Z Z.heap "java/lang/String" "COMPACT_STRINGS" "Z" (.int zc)) (hzc : ¬ zc = 0) (SO : Sta Z Z.heap "com/example/pactum/pactum/model/Credentials" "OWN" "Lcom/example/pactum/pactum/model/Credentials;" (.ref G0)) (EO : Exa Z Z.heap G0 "com/example/pactum/pactum/model/Credentials") (FO1 : Fld Z Z.heap G0 "com/example/pactum/pactum/model/Credentials" "user" "Ljava/lang/String;" .null) (FO2 : Fld Z Z.heap G0 "com/example/pactum/pactum/model/Credentials" "password" "Ljava/lang/String;" .null) :
    ConW l x code maxLocals ret ws room_1 Z consts_1 #[(.int i0), (.int i1), (.int i2), (.int i3), (.int i4), (.int i5)] h0 (fun v h L => v = some (.int 1) ∧ Fr n0 L) 48 1216 := by
  refine enterW (plainFor_of_name pn_2) ?_
  intro p e s m below meth c s₁ hnm hret hlk D0
  rw [ef_cX m i0 i1 i2 i3 i4 i5]
  refine g_iloadN D0 1 at_0 rfl rfl ?_
  refine g_istore D0 3 #[.val (.int i0), .val (.int i1), .val (.int i2), .val (.int i3), .val (.int i4), .val (.int i5), .val (.int i2), .unset, .unset, .unset, .unset, .unset] at_1 rfl rfl ?_
  refine g_iload D0 5 at_3 rfl rfl ?_
  refine g_iconst D0 6 (1 : Int32) at_5 rfl rfl ?_
  refine g_iand D0 7 at_6 rfl ?_
  suffices K251 : ∀ uu : Int32, True → Go p e below (WG Z consts_1 s (fun v h L => v = some (.int 1) ∧ Fr n0 L) 48 1216) (s₁.setTop (mkF m 23 #[.val (.int i0), .val (.int i1), .val (.int i2), .val (.int i3), .val (.int i4), .val (.int i5), .val (.int uu), .unset, .unset, .unset, .unset, .unset] [])) by
    by_cases hr252 : (i4 &&& (1 : Int32)) = (0 : Int32)
    · refine g_ifY D0 13 at_7 (teq hr252).1 (by decide) (by decide) ?_
      refine g_iload D0 15 at_13 rfl rfl ?_
      refine g_iconst D0 16 (4 : Int32) at_15 rfl rfl ?_
      refine g_iand D0 17 at_16 rfl ?_
      by_cases hr253 : (i4 &&& (4 : Int32)) = (0 : Int32)
      · refine g_ifY D0 23 at_17 (teq hr253).1 (by decide) (by decide) ?_
        exact K251 _ trivial
      refine g_ifN D0 20 at_17 (feq hr253).1 rfl ?_
      refine g_iloadN D0 21 at_20 rfl rfl ?_
      refine g_istore D0 23 #[.val (.int i0), .val (.int i1), .val (.int i2), .val (.int i3), .val (.int i4), .val (.int i5), .val (.int i1), .unset, .unset, .unset, .unset, .unset] at_21 rfl rfl ?_
      exact K251 _ trivial
    refine g_ifN D0 10 at_7 (feq hr252).1 rfl ?_
    refine g_iloadN D0 11 at_10 rfl rfl ?_
    refine g_istore D0 13 #[.val (.int i0), .val (.int i1), .val (.int i2), .val (.int i3), .val (.int i4), .val (.int i5), .val (.int i0), .unset, .unset, .unset, .unset, .unset] at_11 rfl rfl ?_
    refine g_iload D0 15 at_13 rfl rfl ?_
    refine g_iconst D0 16 (4 : Int32) at_15 rfl rfl ?_
    refine g_iand D0 17 at_16 rfl ?_
    by_cases hr254 : (i4 &&& (4 : Int32)) = (0 : Int32)
    · refine g_ifY D0 23 at_17 (teq hr254).1 (by decide) (by decide) ?_
      exact K251 _ trivial
    refine g_ifN D0 20 at_17 (feq hr254).1 rfl ?_
    refine g_iloadN D0 21 at_20 rfl rfl ?_
    refine g_istore D0 23 #[.val (.int i0), .val (.int i1), .val (.int i2), .val (.int i3), .val (.int i4), .val (.int i5), .val (.int i1), .unset, .unset, .unset, .unset, .unset] at_21 rfl rfl ?_
    exact K251 _ trivial
  intro uu huu
  refine g_iloadN D0 24 at_23 rfl rfl ?_
  refine g_istore D0 26 #[.val (.int i0), .val (.int i1), .val (.int i2), .val (.int i3), .val (.int i4), .val (.int i5), .val (.int uu), .val (.int i3), .unset, .unset, .unset, .unset] at_24 rfl rfl ?_
  refine g_iload D0 28 at_26 rfl rfl ?_
  refine g_iconst D0 29 (2 : Int32) at_28 rfl rfl ?_
  refine g_iand D0 30 at_29 rfl ?_
  suffices K255 : ∀ pp : Int32, True → Go p e below (WG Z consts_1 s (fun v h L => v = some (.int 1) ∧ Fr n0 L) 48 1216) (s₁.setTop (mkF m 47 #[.val (.int i0), .val (.int i1), .val (.int i2), .val (.int i3), .val (.int i4), .val (.int i5), .val (.int uu), .val (.int pp), .unset, .unset, .unset, .unset] [])) by
    by_cases hr256 : (i4 &&& (2 : Int32)) = (0 : Int32)
    · refine g_ifY D0 36 at_30 (teq hr256).1 (by decide) (by decide) ?_
      refine g_iload D0 38 at_36 rfl rfl ?_
      refine g_bipush D0 40 (8 : Int32) at_38 rfl rfl ?_
      refine g_iand D0 41 at_40 rfl ?_
      by_cases hr257 : (i4 &&& (8 : Int32)) = (0 : Int32)
      · refine g_ifY D0 47 at_41 (teq hr257).1 (by decide) (by decide) ?_
        exact K255 _ trivial
      refine g_ifN D0 44 at_41 (feq hr257).1 rfl ?_
      refine g_iloadN D0 45 at_44 rfl rfl ?_
      refine g_istore D0 47 #[.val (.int i0), .val (.int i1), .val (.int i2), .val (.int i3), .val (.int i4), .val (.int i5), .val (.int uu), .val (.int i0), .unset, .unset, .unset, .unset] at_45 rfl rfl ?_
      exact K255 _ trivial
    refine g_ifN D0 33 at_30 (feq hr256).1 rfl ?_
    refine g_iloadN D0 34 at_33 rfl rfl ?_
    refine g_istore D0 36 #[.val (.int i0), .val (.int i1), .val (.int i2), .val (.int i3), .val (.int i4), .val (.int i5), .val (.int uu), .val (.int i1), .unset, .unset, .unset, .unset] at_34 rfl rfl ?_
    refine g_iload D0 38 at_36 rfl rfl ?_
    refine g_bipush D0 40 (8 : Int32) at_38 rfl rfl ?_
    refine g_iand D0 41 at_40 rfl ?_
    by_cases hr258 : (i4 &&& (8 : Int32)) = (0 : Int32)
    · refine g_ifY D0 47 at_41 (teq hr258).1 (by decide) (by decide) ?_
      exact K255 _ trivial
    refine g_ifN D0 44 at_41 (feq hr258).1 rfl ?_
    refine g_iloadN D0 45 at_44 rfl rfl ?_
    refine g_istore D0 47 #[.val (.int i0), .val (.int i1), .val (.int i2), .val (.int i3), .val (.int i4), .val (.int i5), .val (.int uu), .val (.int i0), .unset, .unset, .unset, .unset] at_45 rfl rfl ?_
    exact K255 _ trivial
  intro pp hpp
  suffices K1 : ∀ s1 T1 L1 h1 b1 v1 w1, Wk p l e room_1 m #[.int i0, .int i1, .int i2, .int i3, .int i4, .int i5] below meth c x.cls code maxLocals Z (WI Z consts_1 s) s1 T1 L1 13 27 h1 → Fr n0 L1 → Old Z n0 h1 → n0 ≤ h1.size → Ext h0 h1 → h0.size ≤ b1 → Exa Z h1 b1 "com/example/pactum/pactum/model/Credentials" → Fld Z h1 b1 "com/example/pactum/pactum/model/Credentials" "user" "Ljava/lang/String;" v1 → Fld Z h1 b1 "com/example/pactum/pactum/model/Credentials" "password" "Ljava/lang/String;" w1 → OSv Z h1 v1 (own_mk i0) → OSv Z h1 w1 (own_mk i1) → (∀ a, v1 = .ref a → h0.size ≤ a) → (∀ a, w1 = .ref a → h0.size ≤ a) → Go p e below (WG Z consts_1 s (fun v h L => v = some (.int 1) ∧ Fr n0 L) 48 1216) (T1.setTop (mkF m 64 #[.val (.int i0), .val (.int i1), .val (.int i2), .val (.int i3), .val (.int i4), .val (.int i5), .val (.int uu), .val (.int pp), .val (.ref b1), .unset, .unset, .unset] [])) by
    refine g_newO D0 50 (hw _ w_0) (hw _ w_1) (hw _ w_2) at_47 (by decide) (by decide) (fun _ E => D0.iv.ext E) rfl ?_
    intro T259 h259 a259 g259 E259 A259 N259 D259
    refine g_dup D259 51 at_50 rfl rfl ?_
    refine g_iloadN D259 52 at_51 rfl rfl ?_
    refine g_callSV D259 55 hEW (hw _ w_3) (hw _ w_4) (hw _ w_5) (hw _ w_6) (by decide) (cMk l Z a0 hw [] i0 zc h259 n0 (Nat.le_trans Z0 E259.1) hEW (OLD.ext E259) CS hzc) rfl [(.int i0)] rfl (lenOf pd_13 rfl) rfl 2 (Nat.le_of_eq rfl) (by decide) (by decide) (by decide) (by decide) at_52 rfl ?_
    intro v260 s260 T260 h260 L260 q260 SF260 D260
    obtain ⟨w_260, rfl, N260, E260, Y260⟩ := q260
    have NF260 := Fr.app (Fr.nil n0) N260
    rcases Y260 with ⟨rfl, e260⟩ | ⟨u260, cs260, rfl, e260, X260, g260, S260⟩
    · show Go p e below _ (T260.setTop (mkF m 55 #[.val (.int i0), .val (.int i1), .val (.int i2), .val (.int i3), .val (.int i4), .val (.int i5), .val (.int uu), .val (.int pp), .unset, .unset, .unset, .unset] [.null, (.ref a259), (.ref a259)]))
      refine g_iloadN D260 56 at_55 rfl rfl ?_
      refine g_callSV D260 59 hEW (hw _ w_3) (hw _ w_4) (hw _ w_5) (hw _ w_6) (by decide) (cMk l Z a0 hw [] i1 zc h260 n0 (Nat.le_trans (Nat.le_trans Z0 E259.1) E260.1) hEW ((OLD.ext E259).ext E260) CS hzc) rfl [(.int i1)] rfl (lenOf pd_13 rfl) rfl 3 (Nat.le_of_eq rfl) (by decide) (by decide) (by decide) (by decide) at_56 rfl ?_
      intro v261 s261 T261 h261 L261 q261 SF261 D261
      obtain ⟨w_261, rfl, N261, E261, Y261⟩ := q261
      have NF261 := Fr.app NF260 N261
      rcases Y261 with ⟨rfl, e261⟩ | ⟨u261, cs261, rfl, e261, X261, g261, S261⟩
      · show Go p e below _ (T261.setTop (mkF m 59 #[.val (.int i0), .val (.int i1), .val (.int i2), .val (.int i3), .val (.int i4), .val (.int i5), .val (.int uu), .val (.int pp), .unset, .unset, .unset, .unset] [.null, .null, (.ref a259), (.ref a259)]))
        refine g_callN D261 62 rfl (hw _ w_29) (hw _ w_30) (hw _ w_31) (by decide) ((cCI_nn l Z a0 hw [] a259 zc h261 n0 (Nat.le_trans (Nat.le_trans (Nat.le_trans Z0 E259.1) E260.1) E261.1) (((OLD.ext E259).ext E260).ext E261) CS hzc ((A259.ext E260).ext E261) (((N259 (Or.inr (hw _ w_34)) (ty := (.object "java/lang/String")) (by decide)).ext E260).ext E261) (((N259 (Or.inr (hw _ w_36)) (ty := (.object "java/lang/String")) (by decide)).ext E260).ext E261) (((N259 (Or.inr (hw _ w_62)) (ty := .int) (by decide)).ext E260).ext E261) (Nat.le_trans Z0 (Nat.le_of_eq g259.symm))).back D261 1 (hw _ w_31) (hw _ w_2) (by decide) (by decide)) rfl [.null, .null] rfl (lenOf pd_14 rfl) rfl (Nat.le_of_eq rfl) (by decide) (by decide) (fun _ _ _ q => D261.iv.keep (sfS (Safe.exa D261.wm.alike ((A259.ext E260).ext E261) (by decide) (by decide)) sf0) q.2.2.1) at_59 rfl ?_
        intro v262 T262 h262 L262 q262 D262
        obtain ⟨rfl, N262, K262, A262, U262, P262⟩ := q262
        have NF262 := Fr.app NF261 N262
        show Go p e below _ (T262.setTop (mkF m 62 #[.val (.int i0), .val (.int i1), .val (.int i2), .val (.int i3), .val (.int i4), .val (.int i5), .val (.int uu), .val (.int pp), .unset, .unset, .unset, .unset] [(.ref a259)]))
        refine g_astore D262 64 #[.val (.int i0), .val (.int i1), .val (.int i2), .val (.int i3), .val (.int i4), .val (.int i5), .val (.int uu), .val (.int pp), .val (.ref a259), .unset, .unset, .unset] at_62 rfl rfl rfl ?_
        exact K1 _ _ _ _ a259 .null .null (D262.more (by decide) (by decide)) NF262 ((((OLD.ext E259).ext E260).ext E261).keep K262 (allS (Nat.le_trans Z0 (Nat.le_of_eq g259.symm)) all0)) (Nat.le_trans (Nat.le_trans (Nat.le_trans (Nat.le_trans Z0 E259.1) E260.1) E261.1) K262.1) (Keep.toExt (((((Keep.refl _ []).ext E259).ext E260).ext E261).trans K262 (allS (Or.inr (Nat.le_trans (Nat.le_refl _) (Nat.le_of_eq g259.symm))) all0))) (Nat.le_trans (Nat.le_refl _) (Nat.le_of_eq g259.symm)) A262 U262 P262 (Or.inl ⟨rfl, e260⟩) (Or.inl ⟨rfl, e261⟩) (fun _ q => nomatch q) (fun _ q => nomatch q)
      · show Go p e below _ (T261.setTop (mkF m 59 #[.val (.int i0), .val (.int i1), .val (.int i2), .val (.int i3), .val (.int i4), .val (.int i5), .val (.int uu), .val (.int pp), .unset, .unset, .unset, .unset] [(.ref u261), .null, (.ref a259), (.ref a259)]))
        refine g_callN D261 62 rfl (hw _ w_29) (hw _ w_30) (hw _ w_31) (by decide) ((cCI_nr l Z a0 hw [] a259 u261 zc _ h261 n0 (Nat.le_trans (Nat.le_trans (Nat.le_trans Z0 E259.1) E260.1) E261.1) (((OLD.ext E259).ext E260).ext E261) CS hzc ((A259.ext E260).ext E261) (((N259 (Or.inr (hw _ w_34)) (ty := (.object "java/lang/String")) (by decide)).ext E260).ext E261) (((N259 (Or.inr (hw _ w_36)) (ty := (.object "java/lang/String")) (by decide)).ext E260).ext E261) (((N259 (Or.inr (hw _ w_62)) (ty := .int) (by decide)).ext E260).ext E261) (Nat.le_trans Z0 (Nat.le_of_eq g259.symm)) X261 (Nat.le_trans (Nat.le_trans (Nat.le_trans Z0 E259.1) E260.1) g261)).back D261 1 (hw _ w_31) (hw _ w_2) (by decide) (by decide)) rfl [.null, (.ref u261)] rfl (lenOf pd_14 rfl) rfl (Nat.le_of_eq rfl) (by decide) (by decide) (fun _ _ _ q => D261.iv.keep (sfS (Safe.exa D261.wm.alike ((A259.ext E260).ext E261) (by decide) (by decide)) (sfS S261 sf0)) q.2.2.1) at_59 rfl ?_
        intro v263 T263 h263 L263 q263 D263
        obtain ⟨rfl, N263, K263, A263, U263, P263, Z263_0⟩ := q263
        have NF263 := Fr.app NF261 N263
        show Go p e below _ (T263.setTop (mkF m 62 #[.val (.int i0), .val (.int i1), .val (.int i2), .val (.int i3), .val (.int i4), .val (.int i5), .val (.int uu), .val (.int pp), .unset, .unset, .unset, .unset] [(.ref a259)]))
        refine g_astore D263 64 #[.val (.int i0), .val (.int i1), .val (.int i2), .val (.int i3), .val (.int i4), .val (.int i5), .val (.int uu), .val (.int pp), .val (.ref a259), .unset, .unset, .unset] at_62 rfl rfl rfl ?_
        exact K1 _ _ _ _ a259 .null (.ref u261) (D263.more (by decide) (by decide)) NF263 ((((OLD.ext E259).ext E260).ext E261).keep K263 (allS (Nat.le_trans Z0 (Nat.le_of_eq g259.symm)) (allS (Nat.le_trans (Nat.le_trans (Nat.le_trans Z0 E259.1) E260.1) g261) all0))) (Nat.le_trans (Nat.le_trans (Nat.le_trans (Nat.le_trans Z0 E259.1) E260.1) E261.1) K263.1) (Keep.toExt (((((Keep.refl _ []).ext E259).ext E260).ext E261).trans K263 (allS (Or.inr (Nat.le_trans (Nat.le_refl _) (Nat.le_of_eq g259.symm))) (allS (Or.inr (Nat.le_trans (Nat.le_trans (Nat.le_trans (Nat.le_refl _) E259.1) E260.1) g261)) all0)))) (Nat.le_trans (Nat.le_refl _) (Nat.le_of_eq g259.symm)) A263 U263 P263 (Or.inl ⟨rfl, e260⟩) (Or.inr ⟨u261, _, rfl, e261, Z263_0⟩) (fun _ q => nomatch q) (fun _ q => Value.ref.inj q ▸ (Nat.le_trans (Nat.le_trans (Nat.le_trans (Nat.le_refl _) E259.1) E260.1) g261))
    · show Go p e below _ (T260.setTop (mkF m 55 #[.val (.int i0), .val (.int i1), .val (.int i2), .val (.int i3), .val (.int i4), .val (.int i5), .val (.int uu), .val (.int pp), .unset, .unset, .unset, .unset] [(.ref u260), (.ref a259), (.ref a259)]))
      refine g_iloadN D260 56 at_55 rfl rfl ?_
      refine g_callSV D260 59 hEW (hw _ w_3) (hw _ w_4) (hw _ w_5) (hw _ w_6) (by decide) (cMk l Z a0 hw [] i1 zc h260 n0 (Nat.le_trans (Nat.le_trans Z0 E259.1) E260.1) hEW ((OLD.ext E259).ext E260) CS hzc) rfl [(.int i1)] rfl (lenOf pd_13 rfl) rfl 3 (Nat.le_of_eq rfl) (by decide) (by decide) (by decide) (by decide) at_56 rfl ?_
      intro v264 s264 T264 h264 L264 q264 SF264 D264
      obtain ⟨w_264, rfl, N264, E264, Y264⟩ := q264
      have NF264 := Fr.app NF260 N264
      rcases Y264 with ⟨rfl, e264⟩ | ⟨u264, cs264, rfl, e264, X264, g264, S264⟩
      · show Go p e below _ (T264.setTop (mkF m 59 #[.val (.int i0), .val (.int i1), .val (.int i2), .val (.int i3), .val (.int i4), .val (.int i5), .val (.int uu), .val (.int pp), .unset, .unset, .unset, .unset] [.null, (.ref u260), (.ref a259), (.ref a259)]))
        have T1_ := SF264 u260 X260.exa.lt S260
        refine g_callN D264 62 rfl (hw _ w_29) (hw _ w_30) (hw _ w_31) (by decide) ((cCI_rn l Z a0 hw [] a259 u260 zc _ h264 n0 (Nat.le_trans (Nat.le_trans (Nat.le_trans Z0 E259.1) E260.1) E264.1) (((OLD.ext E259).ext E260).ext E264) CS hzc ((A259.ext E260).ext E264) (((N259 (Or.inr (hw _ w_34)) (ty := (.object "java/lang/String")) (by decide)).ext E260).ext E264) (((N259 (Or.inr (hw _ w_36)) (ty := (.object "java/lang/String")) (by decide)).ext E260).ext E264) (((N259 (Or.inr (hw _ w_62)) (ty := .int) (by decide)).ext E260).ext E264) (Nat.le_trans Z0 (Nat.le_of_eq g259.symm)) (X260.ext E264) (Nat.le_trans (Nat.le_trans Z0 E259.1) g260)).back D264 1 (hw _ w_31) (hw _ w_2) (by decide) (by decide)) rfl [(.ref u260), .null] rfl (lenOf pd_14 rfl) rfl (Nat.le_of_eq rfl) (by decide) (by decide) (fun _ _ _ q => D264.iv.keep (sfS (Safe.exa D264.wm.alike ((A259.ext E260).ext E264) (by decide) (by decide)) (sfS T1_ sf0)) q.2.2.1) at_59 rfl ?_
        intro v265 T265 h265 L265 q265 D265
        obtain ⟨rfl, N265, K265, A265, U265, P265, Z265_0⟩ := q265
        have NF265 := Fr.app NF264 N265
        show Go p e below _ (T265.setTop (mkF m 62 #[.val (.int i0), .val (.int i1), .val (.int i2), .val (.int i3), .val (.int i4), .val (.int i5), .val (.int uu), .val (.int pp), .unset, .unset, .unset, .unset] [(.ref a259)]))
        refine g_astore D265 64 #[.val (.int i0), .val (.int i1), .val (.int i2), .val (.int i3), .val (.int i4), .val (.int i5), .val (.int uu), .val (.int pp), .val (.ref a259), .unset, .unset, .unset] at_62 rfl rfl rfl ?_
        exact K1 _ _ _ _ a259 (.ref u260) .null (D265.more (by decide) (by decide)) NF265 ((((OLD.ext E259).ext E260).ext E264).keep K265 (allS (Nat.le_trans Z0 (Nat.le_of_eq g259.symm)) (allS (Nat.le_trans (Nat.le_trans Z0 E259.1) g260) all0))) (Nat.le_trans (Nat.le_trans (Nat.le_trans (Nat.le_trans Z0 E259.1) E260.1) E264.1) K265.1) (Keep.toExt (((((Keep.refl _ []).ext E259).ext E260).ext E264).trans K265 (allS (Or.inr (Nat.le_trans (Nat.le_refl _) (Nat.le_of_eq g259.symm))) (allS (Or.inr (Nat.le_trans (Nat.le_trans (Nat.le_refl _) E259.1) g260)) all0)))) (Nat.le_trans (Nat.le_refl _) (Nat.le_of_eq g259.symm)) A265 U265 P265 (Or.inr ⟨u260, _, rfl, e260, Z265_0⟩) (Or.inl ⟨rfl, e264⟩) (fun _ q => Value.ref.inj q ▸ (Nat.le_trans (Nat.le_trans (Nat.le_refl _) E259.1) g260)) (fun _ q => nomatch q)
      · show Go p e below _ (T264.setTop (mkF m 59 #[.val (.int i0), .val (.int i1), .val (.int i2), .val (.int i3), .val (.int i4), .val (.int i5), .val (.int uu), .val (.int pp), .unset, .unset, .unset, .unset] [(.ref u264), (.ref u260), (.ref a259), (.ref a259)]))
        have T1_ := SF264 u260 X260.exa.lt S260
        refine g_callN D264 62 rfl (hw _ w_29) (hw _ w_30) (hw _ w_31) (by decide) ((cCI_rr l Z a0 hw [] a259 u260 u264 zc _ _ h264 n0 (Nat.le_trans (Nat.le_trans (Nat.le_trans Z0 E259.1) E260.1) E264.1) (((OLD.ext E259).ext E260).ext E264) CS hzc ((A259.ext E260).ext E264) (((N259 (Or.inr (hw _ w_34)) (ty := (.object "java/lang/String")) (by decide)).ext E260).ext E264) (((N259 (Or.inr (hw _ w_36)) (ty := (.object "java/lang/String")) (by decide)).ext E260).ext E264) (((N259 (Or.inr (hw _ w_62)) (ty := .int) (by decide)).ext E260).ext E264) (Nat.le_trans Z0 (Nat.le_of_eq g259.symm)) (X260.ext E264) (Nat.le_trans (Nat.le_trans Z0 E259.1) g260) X264 (Nat.le_trans (Nat.le_trans (Nat.le_trans Z0 E259.1) E260.1) g264) (Ne.symm (Nat.ne_of_lt (Nat.lt_of_lt_of_le X260.exa.lt g264)))).back D264 1 (hw _ w_31) (hw _ w_2) (by decide) (by decide)) rfl [(.ref u260), (.ref u264)] rfl (lenOf pd_14 rfl) rfl (Nat.le_of_eq rfl) (by decide) (by decide) (fun _ _ _ q => D264.iv.keep (sfS (Safe.exa D264.wm.alike ((A259.ext E260).ext E264) (by decide) (by decide)) (sfS T1_ (sfS S264 sf0))) q.2.2.1) at_59 rfl ?_
        intro v266 T266 h266 L266 q266 D266
        obtain ⟨rfl, N266, K266, A266, U266, P266, Z266_0, Z266_1⟩ := q266
        have NF266 := Fr.app NF264 N266
        show Go p e below _ (T266.setTop (mkF m 62 #[.val (.int i0), .val (.int i1), .val (.int i2), .val (.int i3), .val (.int i4), .val (.int i5), .val (.int uu), .val (.int pp), .unset, .unset, .unset, .unset] [(.ref a259)]))
        refine g_astore D266 64 #[.val (.int i0), .val (.int i1), .val (.int i2), .val (.int i3), .val (.int i4), .val (.int i5), .val (.int uu), .val (.int pp), .val (.ref a259), .unset, .unset, .unset] at_62 rfl rfl rfl ?_
        exact K1 _ _ _ _ a259 (.ref u260) (.ref u264) (D266.more (by decide) (by decide)) NF266 ((((OLD.ext E259).ext E260).ext E264).keep K266 (allS (Nat.le_trans Z0 (Nat.le_of_eq g259.symm)) (allS (Nat.le_trans (Nat.le_trans Z0 E259.1) g260) (allS (Nat.le_trans (Nat.le_trans (Nat.le_trans Z0 E259.1) E260.1) g264) all0)))) (Nat.le_trans (Nat.le_trans (Nat.le_trans (Nat.le_trans Z0 E259.1) E260.1) E264.1) K266.1) (Keep.toExt (((((Keep.refl _ []).ext E259).ext E260).ext E264).trans K266 (allS (Or.inr (Nat.le_trans (Nat.le_refl _) (Nat.le_of_eq g259.symm))) (allS (Or.inr (Nat.le_trans (Nat.le_trans (Nat.le_refl _) E259.1) g260)) (allS (Or.inr (Nat.le_trans (Nat.le_trans (Nat.le_trans (Nat.le_refl _) E259.1) E260.1) g264)) all0))))) (Nat.le_trans (Nat.le_refl _) (Nat.le_of_eq g259.symm)) A266 U266 P266 (Or.inr ⟨u260, _, rfl, e260, Z266_0⟩) (Or.inr ⟨u264, _, rfl, e264, Z266_1⟩) (fun _ q => Value.ref.inj q ▸ (Nat.le_trans (Nat.le_trans (Nat.le_refl _) E259.1) g260)) (fun _ q => Value.ref.inj q ▸ (Nat.le_trans (Nat.le_trans (Nat.le_trans (Nat.le_refl _) E259.1) E260.1) g264))
  intro s1 T1 L1 h1 b1 v1 w1 D1 NF1 OLD1 Z1 E1 g1 A1 FU1 FP1 OU1 OP1 hU1 hP1
  show Go p e below _ (T1.setTop (mkF m 64 #[.val (.int i0), .val (.int i1), .val (.int i2), .val (.int i3), .val (.int i4), .val (.int i5), .val (.int uu), .val (.int pp), .val (.ref b1), .unset, .unset, .unset] []))
  suffices K2 : ∀ s2 T2 L2 h2 b2 v2 w2, Wk p l e room_1 m #[.int i0, .int i1, .int i2, .int i3, .int i4, .int i5] below meth c x.cls code maxLocals Z (WI Z consts_1 s) s2 T2 L2 26 54 h2 → Fr n0 L2 → Old Z n0 h2 → n0 ≤ h2.size → Ext h1 h2 → h1.size ≤ b2 → Exa Z h2 b2 "com/example/pactum/pactum/model/Credentials" → Fld Z h2 b2 "com/example/pactum/pactum/model/Credentials" "user" "Ljava/lang/String;" v2 → Fld Z h2 b2 "com/example/pactum/pactum/model/Credentials" "password" "Ljava/lang/String;" w2 → OSv Z h2 v2 (own_mk uu) → OSv Z h2 w2 (own_mk pp) → (∀ a, v2 = .ref a → h1.size ≤ a) → (∀ a, w2 = .ref a → h1.size ≤ a) → Go p e below (WG Z consts_1 s (fun v h L => v = some (.int 1) ∧ Fr n0 L) 48 1216) (T2.setTop (mkF m 83 #[.val (.int i0), .val (.int i1), .val (.int i2), .val (.int i3), .val (.int i4), .val (.int i5), .val (.int uu), .val (.int pp), .val (.ref b1), .val (.ref b2), .unset, .unset] [])) by
    refine g_newO D1 67 (hw _ w_0) (hw _ w_1) (hw _ w_2) at_64 (by decide) (by decide) (fun _ E => D1.iv.ext E) rfl ?_
    intro T267 h267 a267 g267 E267 A267 N267 D267
    refine g_dup D267 68 at_67 rfl rfl ?_
    refine g_iload D267 70 at_68 rfl rfl ?_
    refine g_callSV D267 73 hEW (hw _ w_3) (hw _ w_4) (hw _ w_5) (hw _ w_6) (by decide) (cMk l Z a0 hw [] uu zc h267 n0 (Nat.le_trans Z1 E267.1) hEW (OLD1.ext E267) CS hzc) rfl [(.int uu)] rfl (lenOf pd_13 rfl) rfl 2 (Nat.le_of_eq rfl) (by decide) (by decide) (by decide) (by decide) at_70 rfl ?_
    intro v268 s268 T268 h268 L268 q268 SF268 D268
    obtain ⟨w_268, rfl, N268, E268, Y268⟩ := q268
    have NF268 := Fr.app NF1 N268
    rcases Y268 with ⟨rfl, e268⟩ | ⟨u268, cs268, rfl, e268, X268, g268, S268⟩
    · show Go p e below _ (T268.setTop (mkF m 73 #[.val (.int i0), .val (.int i1), .val (.int i2), .val (.int i3), .val (.int i4), .val (.int i5), .val (.int uu), .val (.int pp), .val (.ref b1), .unset, .unset, .unset] [.null, (.ref a267), (.ref a267)]))
      refine g_iload D268 75 at_73 rfl rfl ?_
      refine g_callSV D268 78 hEW (hw _ w_3) (hw _ w_4) (hw _ w_5) (hw _ w_6) (by decide) (cMk l Z a0 hw [] pp zc h268 n0 (Nat.le_trans (Nat.le_trans Z1 E267.1) E268.1) hEW ((OLD1.ext E267).ext E268) CS hzc) rfl [(.int pp)] rfl (lenOf pd_13 rfl) rfl 3 (Nat.le_of_eq rfl) (by decide) (by decide) (by decide) (by decide) at_75 rfl ?_
      intro v269 s269 T269 h269 L269 q269 SF269 D269
      obtain ⟨w_269, rfl, N269, E269, Y269⟩ := q269
      have NF269 := Fr.app NF268 N269
      rcases Y269 with ⟨rfl, e269⟩ | ⟨u269, cs269, rfl, e269, X269, g269, S269⟩
      · show Go p e below _ (T269.setTop (mkF m 78 #[.val (.int i0), .val (.int i1), .val (.int i2), .val (.int i3), .val (.int i4), .val (.int i5), .val (.int uu), .val (.int pp), .val (.ref b1), .unset, .unset, .unset] [.null, .null, (.ref a267), (.ref a267)]))
        refine g_callN D269 81 rfl (hw _ w_29) (hw _ w_30) (hw _ w_31) (by decide) ((cCI_nn l Z a0 hw [] a267 zc h269 n0 (Nat.le_trans (Nat.le_trans (Nat.le_trans Z1 E267.1) E268.1) E269.1) (((OLD1.ext E267).ext E268).ext E269) CS hzc ((A267.ext E268).ext E269) (((N267 (Or.inr (hw _ w_34)) (ty := (.object "java/lang/String")) (by decide)).ext E268).ext E269) (((N267 (Or.inr (hw _ w_36)) (ty := (.object "java/lang/String")) (by decide)).ext E268).ext E269) (((N267 (Or.inr (hw _ w_62)) (ty := .int) (by decide)).ext E268).ext E269) (Nat.le_trans Z1 (Nat.le_of_eq g267.symm))).back D269 1 (hw _ w_31) (hw _ w_2) (by decide) (by decide)) rfl [.null, .null] rfl (lenOf pd_14 rfl) rfl (Nat.le_of_eq rfl) (by decide) (by decide) (fun _ _ _ q => D269.iv.keep (sfS (Safe.exa D269.wm.alike ((A267.ext E268).ext E269) (by decide) (by decide)) sf0) q.2.2.1) at_78 rfl ?_
        intro v270 T270 h270 L270 q270 D270
        obtain ⟨rfl, N270, K270, A270, U270, P270⟩ := q270
        have NF270 := Fr.app NF269 N270
        show Go p e below _ (T270.setTop (mkF m 81 #[.val (.int i0), .val (.int i1), .val (.int i2), .val (.int i3), .val (.int i4), .val (.int i5), .val (.int uu), .val (.int pp), .val (.ref b1), .unset, .unset, .unset] [(.ref a267)]))
        refine g_astore D270 83 #[.val (.int i0), .val (.int i1), .val (.int i2), .val (.int i3), .val (.int i4), .val (.int i5), .val (.int uu), .val (.int pp), .val (.ref b1), .val (.ref a267), .unset, .unset] at_81 rfl rfl rfl ?_
        exact K2 _ _ _ _ a267 .null .null (D270.more (by decide) (by decide)) NF270 ((((OLD1.ext E267).ext E268).ext E269).keep K270 (allS (Nat.le_trans Z1 (Nat.le_of_eq g267.symm)) all0)) (Nat.le_trans (Nat.le_trans (Nat.le_trans (Nat.le_trans Z1 E267.1) E268.1) E269.1) K270.1) (Keep.toExt (((((Keep.refl _ []).ext E267).ext E268).ext E269).trans K270 (allS (Or.inr (Nat.le_trans (Nat.le_refl _) (Nat.le_of_eq g267.symm))) all0))) (Nat.le_trans (Nat.le_refl _) (Nat.le_of_eq g267.symm)) A270 U270 P270 (Or.inl ⟨rfl, e268⟩) (Or.inl ⟨rfl, e269⟩) (fun _ q => nomatch q) (fun _ q => nomatch q)
      · show Go p e below _ (T269.setTop (mkF m 78 #[.val (.int i0), .val (.int i1), .val (.int i2), .val (.int i3), .val (.int i4), .val (.int i5), .val (.int uu), .val (.int pp), .val (.ref b1), .unset, .unset, .unset] [(.ref u269), .null, (.ref a267), (.ref a267)]))
        refine g_callN D269 81 rfl (hw _ w_29) (hw _ w_30) (hw _ w_31) (by decide) ((cCI_nr l Z a0 hw [] a267 u269 zc _ h269 n0 (Nat.le_trans (Nat.le_trans (Nat.le_trans Z1 E267.1) E268.1) E269.1) (((OLD1.ext E267).ext E268).ext E269) CS hzc ((A267.ext E268).ext E269) (((N267 (Or.inr (hw _ w_34)) (ty := (.object "java/lang/String")) (by decide)).ext E268).ext E269) (((N267 (Or.inr (hw _ w_36)) (ty := (.object "java/lang/String")) (by decide)).ext E268).ext E269) (((N267 (Or.inr (hw _ w_62)) (ty := .int) (by decide)).ext E268).ext E269) (Nat.le_trans Z1 (Nat.le_of_eq g267.symm)) X269 (Nat.le_trans (Nat.le_trans (Nat.le_trans Z1 E267.1) E268.1) g269)).back D269 1 (hw _ w_31) (hw _ w_2) (by decide) (by decide)) rfl [.null, (.ref u269)] rfl (lenOf pd_14 rfl) rfl (Nat.le_of_eq rfl) (by decide) (by decide) (fun _ _ _ q => D269.iv.keep (sfS (Safe.exa D269.wm.alike ((A267.ext E268).ext E269) (by decide) (by decide)) (sfS S269 sf0)) q.2.2.1) at_78 rfl ?_
        intro v271 T271 h271 L271 q271 D271
        obtain ⟨rfl, N271, K271, A271, U271, P271, Z271_0⟩ := q271
        have NF271 := Fr.app NF269 N271
        show Go p e below _ (T271.setTop (mkF m 81 #[.val (.int i0), .val (.int i1), .val (.int i2), .val (.int i3), .val (.int i4), .val (.int i5), .val (.int uu), .val (.int pp), .val (.ref b1), .unset, .unset, .unset] [(.ref a267)]))
        refine g_astore D271 83 #[.val (.int i0), .val (.int i1), .val (.int i2), .val (.int i3), .val (.int i4), .val (.int i5), .val (.int uu), .val (.int pp), .val (.ref b1), .val (.ref a267), .unset, .unset] at_81 rfl rfl rfl ?_
        exact K2 _ _ _ _ a267 .null (.ref u269) (D271.more (by decide) (by decide)) NF271 ((((OLD1.ext E267).ext E268).ext E269).keep K271 (allS (Nat.le_trans Z1 (Nat.le_of_eq g267.symm)) (allS (Nat.le_trans (Nat.le_trans (Nat.le_trans Z1 E267.1) E268.1) g269) all0))) (Nat.le_trans (Nat.le_trans (Nat.le_trans (Nat.le_trans Z1 E267.1) E268.1) E269.1) K271.1) (Keep.toExt (((((Keep.refl _ []).ext E267).ext E268).ext E269).trans K271 (allS (Or.inr (Nat.le_trans (Nat.le_refl _) (Nat.le_of_eq g267.symm))) (allS (Or.inr (Nat.le_trans (Nat.le_trans (Nat.le_trans (Nat.le_refl _) E267.1) E268.1) g269)) all0)))) (Nat.le_trans (Nat.le_refl _) (Nat.le_of_eq g267.symm)) A271 U271 P271 (Or.inl ⟨rfl, e268⟩) (Or.inr ⟨u269, _, rfl, e269, Z271_0⟩) (fun _ q => nomatch q) (fun _ q => Value.ref.inj q ▸ (Nat.le_trans (Nat.le_trans (Nat.le_trans (Nat.le_refl _) E267.1) E268.1) g269))
    · show Go p e below _ (T268.setTop (mkF m 73 #[.val (.int i0), .val (.int i1), .val (.int i2), .val (.int i3), .val (.int i4), .val (.int i5), .val (.int uu), .val (.int pp), .val (.ref b1), .unset, .unset, .unset] [(.ref u268), (.ref a267), (.ref a267)]))
      refine g_iload D268 75 at_73 rfl rfl ?_
      refine g_callSV D268 78 hEW (hw _ w_3) (hw _ w_4) (hw _ w_5) (hw _ w_6) (by decide) (cMk l Z a0 hw [] pp zc h268 n0 (Nat.le_trans (Nat.le_trans Z1 E267.1) E268.1) hEW ((OLD1.ext E267).ext E268) CS hzc) rfl [(.int pp)] rfl (lenOf pd_13 rfl) rfl 3 (Nat.le_of_eq rfl) (by decide) (by decide) (by decide) (by decide) at_75 rfl ?_
      intro v272 s272 T272 h272 L272 q272 SF272 D272
      obtain ⟨w_272, rfl, N272, E272, Y272⟩ := q272
      have NF272 := Fr.app NF268 N272
      rcases Y272 with ⟨rfl, e272⟩ | ⟨u272, cs272, rfl, e272, X272, g272, S272⟩
      · show Go p e below _ (T272.setTop (mkF m 78 #[.val (.int i0), .val (.int i1), .val (.int i2), .val (.int i3), .val (.int i4), .val (.int i5), .val (.int uu), .val (.int pp), .val (.ref b1), .unset, .unset, .unset] [.null, (.ref u268), (.ref a267), (.ref a267)]))
        have T1_ := SF272 u268 X268.exa.lt S268
        refine g_callN D272 81 rfl (hw _ w_29) (hw _ w_30) (hw _ w_31) (by decide) ((cCI_rn l Z a0 hw [] a267 u268 zc _ h272 n0 (Nat.le_trans (Nat.le_trans (Nat.le_trans Z1 E267.1) E268.1) E272.1) (((OLD1.ext E267).ext E268).ext E272) CS hzc ((A267.ext E268).ext E272) (((N267 (Or.inr (hw _ w_34)) (ty := (.object "java/lang/String")) (by decide)).ext E268).ext E272) (((N267 (Or.inr (hw _ w_36)) (ty := (.object "java/lang/String")) (by decide)).ext E268).ext E272) (((N267 (Or.inr (hw _ w_62)) (ty := .int) (by decide)).ext E268).ext E272) (Nat.le_trans Z1 (Nat.le_of_eq g267.symm)) (X268.ext E272) (Nat.le_trans (Nat.le_trans Z1 E267.1) g268)).back D272 1 (hw _ w_31) (hw _ w_2) (by decide) (by decide)) rfl [(.ref u268), .null] rfl (lenOf pd_14 rfl) rfl (Nat.le_of_eq rfl) (by decide) (by decide) (fun _ _ _ q => D272.iv.keep (sfS (Safe.exa D272.wm.alike ((A267.ext E268).ext E272) (by decide) (by decide)) (sfS T1_ sf0)) q.2.2.1) at_78 rfl ?_
        intro v273 T273 h273 L273 q273 D273
        obtain ⟨rfl, N273, K273, A273, U273, P273, Z273_0⟩ := q273
        have NF273 := Fr.app NF272 N273
        show Go p e below _ (T273.setTop (mkF m 81 #[.val (.int i0), .val (.int i1), .val (.int i2), .val (.int i3), .val (.int i4), .val (.int i5), .val (.int uu), .val (.int pp), .val (.ref b1), .unset, .unset, .unset] [(.ref a267)]))
        refine g_astore D273 83 #[.val (.int i0), .val (.int i1), .val (.int i2), .val (.int i3), .val (.int i4), .val (.int i5), .val (.int uu), .val (.int pp), .val (.ref b1), .val (.ref a267), .unset, .unset] at_81 rfl rfl rfl ?_
        exact K2 _ _ _ _ a267 (.ref u268) .null (D273.more (by decide) (by decide)) NF273 ((((OLD1.ext E267).ext E268).ext E272).keep K273 (allS (Nat.le_trans Z1 (Nat.le_of_eq g267.symm)) (allS (Nat.le_trans (Nat.le_trans Z1 E267.1) g268) all0))) (Nat.le_trans (Nat.le_trans (Nat.le_trans (Nat.le_trans Z1 E267.1) E268.1) E272.1) K273.1) (Keep.toExt (((((Keep.refl _ []).ext E267).ext E268).ext E272).trans K273 (allS (Or.inr (Nat.le_trans (Nat.le_refl _) (Nat.le_of_eq g267.symm))) (allS (Or.inr (Nat.le_trans (Nat.le_trans (Nat.le_refl _) E267.1) g268)) all0)))) (Nat.le_trans (Nat.le_refl _) (Nat.le_of_eq g267.symm)) A273 U273 P273 (Or.inr ⟨u268, _, rfl, e268, Z273_0⟩) (Or.inl ⟨rfl, e272⟩) (fun _ q => Value.ref.inj q ▸ (Nat.le_trans (Nat.le_trans (Nat.le_refl _) E267.1) g268)) (fun _ q => nomatch q)
      · show Go p e below _ (T272.setTop (mkF m 78 #[.val (.int i0), .val (.int i1), .val (.int i2), .val (.int i3), .val (.int i4), .val (.int i5), .val (.int uu), .val (.int pp), .val (.ref b1), .unset, .unset, .unset] [(.ref u272), (.ref u268), (.ref a267), (.ref a267)]))
        have T1_ := SF272 u268 X268.exa.lt S268
        refine g_callN D272 81 rfl (hw _ w_29) (hw _ w_30) (hw _ w_31) (by decide) ((cCI_rr l Z a0 hw [] a267 u268 u272 zc _ _ h272 n0 (Nat.le_trans (Nat.le_trans (Nat.le_trans Z1 E267.1) E268.1) E272.1) (((OLD1.ext E267).ext E268).ext E272) CS hzc ((A267.ext E268).ext E272) (((N267 (Or.inr (hw _ w_34)) (ty := (.object "java/lang/String")) (by decide)).ext E268).ext E272) (((N267 (Or.inr (hw _ w_36)) (ty := (.object "java/lang/String")) (by decide)).ext E268).ext E272) (((N267 (Or.inr (hw _ w_62)) (ty := .int) (by decide)).ext E268).ext E272) (Nat.le_trans Z1 (Nat.le_of_eq g267.symm)) (X268.ext E272) (Nat.le_trans (Nat.le_trans Z1 E267.1) g268) X272 (Nat.le_trans (Nat.le_trans (Nat.le_trans Z1 E267.1) E268.1) g272) (Ne.symm (Nat.ne_of_lt (Nat.lt_of_lt_of_le X268.exa.lt g272)))).back D272 1 (hw _ w_31) (hw _ w_2) (by decide) (by decide)) rfl [(.ref u268), (.ref u272)] rfl (lenOf pd_14 rfl) rfl (Nat.le_of_eq rfl) (by decide) (by decide) (fun _ _ _ q => D272.iv.keep (sfS (Safe.exa D272.wm.alike ((A267.ext E268).ext E272) (by decide) (by decide)) (sfS T1_ (sfS S272 sf0))) q.2.2.1) at_78 rfl ?_
        intro v274 T274 h274 L274 q274 D274
        obtain ⟨rfl, N274, K274, A274, U274, P274, Z274_0, Z274_1⟩ := q274
        have NF274 := Fr.app NF272 N274
        show Go p e below _ (T274.setTop (mkF m 81 #[.val (.int i0), .val (.int i1), .val (.int i2), .val (.int i3), .val (.int i4), .val (.int i5), .val (.int uu), .val (.int pp), .val (.ref b1), .unset, .unset, .unset] [(.ref a267)]))
        refine g_astore D274 83 #[.val (.int i0), .val (.int i1), .val (.int i2), .val (.int i3), .val (.int i4), .val (.int i5), .val (.int uu), .val (.int pp), .val (.ref b1), .val (.ref a267), .unset, .unset] at_81 rfl rfl rfl ?_
        exact K2 _ _ _ _ a267 (.ref u268) (.ref u272) (D274.more (by decide) (by decide)) NF274 ((((OLD1.ext E267).ext E268).ext E272).keep K274 (allS (Nat.le_trans Z1 (Nat.le_of_eq g267.symm)) (allS (Nat.le_trans (Nat.le_trans Z1 E267.1) g268) (allS (Nat.le_trans (Nat.le_trans (Nat.le_trans Z1 E267.1) E268.1) g272) all0)))) (Nat.le_trans (Nat.le_trans (Nat.le_trans (Nat.le_trans Z1 E267.1) E268.1) E272.1) K274.1) (Keep.toExt (((((Keep.refl _ []).ext E267).ext E268).ext E272).trans K274 (allS (Or.inr (Nat.le_trans (Nat.le_refl _) (Nat.le_of_eq g267.symm))) (allS (Or.inr (Nat.le_trans (Nat.le_trans (Nat.le_refl _) E267.1) g268)) (allS (Or.inr (Nat.le_trans (Nat.le_trans (Nat.le_trans (Nat.le_refl _) E267.1) E268.1) g272)) all0))))) (Nat.le_trans (Nat.le_refl _) (Nat.le_of_eq g267.symm)) A274 U274 P274 (Or.inr ⟨u268, _, rfl, e268, Z274_0⟩) (Or.inr ⟨u272, _, rfl, e272, Z274_1⟩) (fun _ q => Value.ref.inj q ▸ (Nat.le_trans (Nat.le_trans (Nat.le_refl _) E267.1) g268)) (fun _ q => Value.ref.inj q ▸ (Nat.le_trans (Nat.le_trans (Nat.le_trans (Nat.le_refl _) E267.1) E268.1) g272))
  intro s2 T2 L2 h2 b2 v2 w2 D2 NF2 OLD2 Z2 E2 g2 A2 FU2 FP2 OU2 OP2 hU2 hP2
  show Go p e below _ (T2.setTop (mkF m 83 #[.val (.int i0), .val (.int i1), .val (.int i2), .val (.int i3), .val (.int i4), .val (.int i5), .val (.int uu), .val (.int pp), .val (.ref b1), .val (.ref b2), .unset, .unset] []))
  have A1' := A1.ext E2
  have FU1' := FU1.ext E2
  have FP1' := FP1.ext E2
  have OU1' := OU1.ext E2
  have OP1' := OP1.ext E2
  have n12 : b1 ≠ b2 := Nat.ne_of_lt (Nat.lt_of_lt_of_le A1.lt g2)
  have n1G : b1 ≠ G0 := Ne.symm (Nat.ne_of_lt (Nat.lt_of_lt_of_le EO.lt (Nat.le_trans (Nat.le_of_eq OLD.1) (Nat.le_trans Z0 g1))))
  have hu : ∀ a, v1 = .ref a → v2 = .ref a → False := fun a q r => absurd (OU1.lt q) (Nat.not_lt.mpr (hU2 a r))
  have hp : ∀ a, w1 = .ref a → w2 = .ref a → False := fun a q r => absurd (OP1.lt q) (Nat.not_lt.mpr (hP2 a r))
  have FO1' := (FO1.ext OLD2.2)
  have FO2' := (FO2.ext OLD2.2)
  have EO' := (EO.ext OLD2.2)
  refine g_iload D2 85 at_83 rfl rfl ?_
  refine g_bipush D2 87 (7 : Int32) at_85 rfl rfl ?_
  refine g_iand D2 88 at_87 rfl ?_
  refine g_istore D2 90 #[.val (.int i0), .val (.int i1), .val (.int i2), .val (.int i3), .val (.int i4), .val (.int i5), .val (.int uu), .val (.int pp), .val (.ref b1), .val (.ref b2), .val (.int (i5 &&& (7 : Int32))), .unset] at_88 rfl rfl ?_
  refine g_iload D2 92 at_90 rfl rfl ?_
  refine g_iconst D2 93 (1 : Int32) at_92 rfl rfl ?_
  by_cases d1 : (i5 &&& (7 : Int32)) = (1 : Int32)
  · refine g_icmpN D2 96 at_93 (teq d1).2 rfl ?_
    refine g_aload D2 98 at_96 rfl rfl rfl ?_
    refine g_aload D2 100 at_98 rfl rfl rfl ?_
    refine g_callVp D2 103 (hw _ w_63) (hw _ w_64) (notFace_of_selects (args := #[]) (mvT D2.wm (hw _ w_66))) (hw _ w_66) (hw _ w_65) (by decide) ((cEqS l Z a0 hw [] b1 h2 n0 Z2).back D2 0 (hw _ w_67) (hw _ w_2) (by decide) (by decide)) A1' rfl [(.ref b1)] rfl (lenOf pd_11 rfl) rfl (Nat.le_of_eq rfl) (by decide) (by decide) at_100 rfl ?_
    intro v275 T275 q275 D275
    subst q275
    show Go p e below _ (T275.setTop (mkF m 103 #[.val (.int i0), .val (.int i1), .val (.int i2), .val (.int i3), .val (.int i4), .val (.int i5), .val (.int uu), .val (.int pp), .val (.ref b1), .val (.ref b2), .val (.int (i5 &&& (7 : Int32))), .unset] [(.int (1 : Int32))]))
    exact r_Nw D275 hEW hret (by simp) hlk at_103 ⟨own_r1, NF2⟩ (by decide) (by decide)
  refine g_icmpY D2 104 at_93 (feq d1).2 (by decide) (by decide) ?_
  refine g_iload D2 106 at_104 rfl rfl ?_
  refine g_iconst D2 107 (2 : Int32) at_106 rfl rfl ?_
  by_cases d2 : (i5 &&& (7 : Int32)) = (2 : Int32)
  · refine g_icmpN D2 110 at_107 (teq d2).2 rfl ?_
    refine g_aload D2 112 at_110 rfl rfl rfl ?_
    refine g_aconst D2 113 at_112 rfl ?_
    refine g_callVp D2 116 (hw _ w_63) (hw _ w_64) (notFace_of_selects (args := #[]) (mvT D2.wm (hw _ w_66))) (hw _ w_66) (hw _ w_65) (by decide) ((cEqN l Z a0 hw [] b1 h2 n0 Z2).back D2 0 (hw _ w_67) (hw _ w_2) (by decide) (by decide)) A1' rfl [.null] rfl (lenOf pd_11 rfl) rfl (Nat.le_of_eq rfl) (by decide) (by decide) at_113 rfl ?_
    intro v276 T276 q276 D276
    subst q276
    show Go p e below _ (T276.setTop (mkF m 116 #[.val (.int i0), .val (.int i1), .val (.int i2), .val (.int i3), .val (.int i4), .val (.int i5), .val (.int uu), .val (.int pp), .val (.ref b1), .val (.ref b2), .val (.int (i5 &&& (7 : Int32))), .unset] [(.int (0 : Int32))]))
    refine g_ifN D276 119 at_116 (by decide) rfl ?_
    refine g_iconst D276 120 (1 : Int32) at_119 rfl rfl ?_
    refine g_goto D276 124 at_120 (by decide) (by decide) ?_
    exact r_Nw D276 hEW hret (by simp) hlk at_124 ⟨own_r1, NF2⟩ (by decide) (by decide)
  refine g_icmpY D2 125 at_107 (feq d2).2 (by decide) (by decide) ?_
  refine g_iload D2 127 at_125 rfl rfl ?_
  refine g_iconst D2 128 (3 : Int32) at_127 rfl rfl ?_
  by_cases d3 : (i5 &&& (7 : Int32)) = (3 : Int32)
  · refine g_icmpN D2 131 at_128 (teq d3).2 rfl ?_
    refine g_iloadN D2 132 at_131 rfl rfl ?_
    refine g_callSV D2 135 hEW (hw _ w_3) (hw _ w_4) (hw _ w_5) (hw _ w_6) (by decide) (cMk l Z a0 hw [] i0 zc h2 n0 Z2 hEW OLD2 CS hzc) rfl [(.int i0)] rfl (lenOf pd_13 rfl) rfl 0 (Nat.le_of_eq rfl) (by decide) (by decide) (by decide) (by decide) at_132 rfl ?_
    intro v277 s277 T277 h277 L277 q277 SF277 D277
    obtain ⟨w_277, rfl, N277, E277, Y277⟩ := q277
    have NF277 := Fr.app NF2 N277
    rcases Y277 with ⟨rfl, -⟩ | ⟨ua, cs, rfl, -, XA, gA, -⟩
    · show Go p e below _ (T277.setTop (mkF m 135 #[.val (.int i0), .val (.int i1), .val (.int i2), .val (.int i3), .val (.int i4), .val (.int i5), .val (.int uu), .val (.int pp), .val (.ref b1), .val (.ref b2), .val (.int (i5 &&& (7 : Int32))), .unset] [.null]))
      refine g_astore D277 137 #[.val (.int i0), .val (.int i1), .val (.int i2), .val (.int i3), .val (.int i4), .val (.int i5), .val (.int uu), .val (.int pp), .val (.ref b1), .val (.ref b2), .val (.int (i5 &&& (7 : Int32))), .val .null] at_135 rfl rfl rfl ?_
      refine g_aload D277 139 at_137 rfl rfl rfl ?_
      refine g_aload D277 141 at_139 rfl rfl rfl ?_
      refine g_callVp D277 144 (hw _ w_63) (hw _ w_64) (notFace_of_selects (args := #[]) (mvT D277.wm (hw _ w_66))) (hw _ w_66) (hw _ w_65) (by decide) ((cEqN l Z a0 hw [] b1 h277 n0 (Nat.le_trans Z2 E277.1)).back D277 0 (hw _ w_67) (hw _ w_2) (by decide) (by decide)) (A1'.ext E277) rfl [.null] rfl (lenOf pd_11 rfl) rfl (Nat.le_of_eq rfl) (by decide) (by decide) at_141 rfl ?_
      intro v278 T278 q278 D278
      subst q278
      show Go p e below _ (T278.setTop (mkF m 144 #[.val (.int i0), .val (.int i1), .val (.int i2), .val (.int i3), .val (.int i4), .val (.int i5), .val (.int uu), .val (.int pp), .val (.ref b1), .val (.ref b2), .val (.int (i5 &&& (7 : Int32))), .val .null] [(.int (0 : Int32))]))
      refine g_ifN D278 147 at_144 (by decide) rfl ?_
      refine g_iconst D278 148 (1 : Int32) at_147 rfl rfl ?_
      refine g_goto D278 152 at_148 (by decide) (by decide) ?_
      exact r_Nw D278 hEW hret (by simp) hlk at_152 ⟨own_r1, NF277⟩ (by decide) (by decide)
    · show Go p e below _ (T277.setTop (mkF m 135 #[.val (.int i0), .val (.int i1), .val (.int i2), .val (.int i3), .val (.int i4), .val (.int i5), .val (.int uu), .val (.int pp), .val (.ref b1), .val (.ref b2), .val (.int (i5 &&& (7 : Int32))), .unset] [(.ref ua)]))
      refine g_astore D277 137 #[.val (.int i0), .val (.int i1), .val (.int i2), .val (.int i3), .val (.int i4), .val (.int i5), .val (.int uu), .val (.int pp), .val (.ref b1), .val (.ref b2), .val (.int (i5 &&& (7 : Int32))), .val (.ref ua)] at_135 rfl rfl rfl ?_
      refine g_aload D277 139 at_137 rfl rfl rfl ?_
      refine g_aload D277 141 at_139 rfl rfl rfl ?_
      refine g_callVp D277 144 (hw _ w_63) (hw _ w_64) (notFace_of_selects (args := #[]) (mvT D277.wm (hw _ w_66))) (hw _ w_66) (hw _ w_65) (by decide) ((cEqT l Z a0 hw [] b1 ua h277 n0 (Nat.le_trans Z2 E277.1) XA.exa (Nat.ne_of_lt (Nat.lt_of_lt_of_le A1'.lt gA))).back D277 0 (hw _ w_67) (hw _ w_2) (by decide) (by decide)) (A1'.ext E277) rfl [(.ref ua)] rfl (lenOf pd_11 rfl) rfl (Nat.le_of_eq rfl) (by decide) (by decide) at_141 rfl ?_
      intro v279 T279 q279 D279
      subst q279
      show Go p e below _ (T279.setTop (mkF m 144 #[.val (.int i0), .val (.int i1), .val (.int i2), .val (.int i3), .val (.int i4), .val (.int i5), .val (.int uu), .val (.int pp), .val (.ref b1), .val (.ref b2), .val (.int (i5 &&& (7 : Int32))), .val (.ref ua)] [(.int (0 : Int32))]))
      refine g_ifN D279 147 at_144 (by decide) rfl ?_
      refine g_iconst D279 148 (1 : Int32) at_147 rfl rfl ?_
      refine g_goto D279 152 at_148 (by decide) (by decide) ?_
      exact r_Nw D279 hEW hret (by simp) hlk at_152 ⟨own_r1, NF277⟩ (by decide) (by decide)
  refine g_icmpY D2 153 at_128 (feq d3).2 (by decide) (by decide) ?_
  refine g_iload D2 155 at_153 rfl rfl ?_
  refine g_iconst D2 156 (4 : Int32) at_155 rfl rfl ?_
  by_cases d4 : (i5 &&& (7 : Int32)) = (4 : Int32)
  · refine g_icmpN D2 159 at_156 (teq d4).2 rfl ?_
    refine g_iloadN D2 160 at_159 rfl rfl ?_
    refine g_iconst D2 161 (0 : Int32) at_160 rfl rfl ?_
    refine g_callSp D2 164 (hw _ w_87) (hw _ w_88) (hw _ w_5) (hw _ w_89) (by decide) ((cSm l Z a0 hw [] i0 (0 : Int32) h2 n0 Z2).back D2 0 (hw _ w_89) (hw _ w_5) (by decide) (by decide)) rfl [(.int i0), (.int (0 : Int32))] rfl (lenOf pd_15 rfl) rfl (Nat.le_of_eq rfl) (by decide) (by decide) at_161 rfl ?_
    intro v280 T280 q280 D280
    obtain ⟨_, rfl, ⟨rfl, e280⟩ | ⟨rfl, e280⟩⟩ := q280
    · show Go p e below _ (T280.setTop (mkF m 164 #[.val (.int i0), .val (.int i1), .val (.int i2), .val (.int i3), .val (.int i4), .val (.int i5), .val (.int uu), .val (.int pp), .val (.ref b1), .val (.ref b2), .val (.int (i5 &&& (7 : Int32))), .unset] [(.int (1 : Int32))]))
      refine g_ifN D280 167 at_164 (by decide) rfl ?_
      refine g_iloadN D280 168 at_167 rfl rfl ?_
      refine g_iconst D280 169 (0 : Int32) at_168 rfl rfl ?_
      refine g_callSp D280 172 (hw _ w_87) (hw _ w_88) (hw _ w_5) (hw _ w_89) (by decide) ((cSm l Z a0 hw [] i1 (0 : Int32) h2 n0 Z2).back D280 0 (hw _ w_89) (hw _ w_5) (by decide) (by decide)) rfl [(.int i1), (.int (0 : Int32))] rfl (lenOf pd_15 rfl) rfl (Nat.le_of_eq rfl) (by decide) (by decide) at_169 rfl ?_
      intro v281 T281 q281 D281
      obtain ⟨_, rfl, ⟨rfl, e281⟩ | ⟨rfl, e281⟩⟩ := q281
      · show Go p e below _ (T281.setTop (mkF m 172 #[.val (.int i0), .val (.int i1), .val (.int i2), .val (.int i3), .val (.int i4), .val (.int i5), .val (.int uu), .val (.int pp), .val (.ref b1), .val (.ref b2), .val (.int (i5 &&& (7 : Int32))), .unset] [(.int (1 : Int32))]))
        refine g_ifN D281 175 at_172 (by decide) rfl ?_
        refine g_iconst D281 176 (1 : Int32) at_175 rfl rfl ?_
        refine g_goto D281 180 at_176 (by decide) (by decide) ?_
        refine g_istore D281 182 #[.val (.int i0), .val (.int i1), .val (.int i2), .val (.int i3), .val (.int i4), .val (.int i5), .val (.int uu), .val (.int pp), .val (.ref b1), .val (.ref b2), .val (.int (i5 &&& (7 : Int32))), .val (.int (1 : Int32))] at_180 rfl rfl ?_
        refine g_aload D281 184 at_182 rfl rfl rfl ?_
        refine g_getS D281 187 (hw _ w_105) Via.refl (SO.ext OLD2.2) at_184 rfl ?_
        intro T282 D282
        refine g_callVp D282 190 (hw _ w_63) (hw _ w_64) (notFace_of_selects (args := #[]) (mvT D282.wm (hw _ w_66))) (hw _ w_66) (hw _ w_65) (by decide) ((cEq2 l Z a0 hw [] b1 G0 v1 .null w1 .null _ none _ none zc h2 n0 Z2 OLD2 CS hzc EO' n1G FU1' FO1' FP1' FO2' OU1' (Or.inl ⟨rfl, rfl⟩) OP1' (Or.inl ⟨rfl, rfl⟩) (fun _ _ q => nomatch q) (fun _ _ q => nomatch q)).back D282 0 (hw _ w_67) (hw _ w_2) (by decide) (by decide)) A1' rfl [(.ref G0)] rfl (lenOf pd_11 rfl) rfl (Nat.le_of_eq rfl) (by decide) (by decide) at_187 rfl ?_
        intro v283 T283 q283 D283
        obtain ⟨r283, rfl, c283⟩ := q283
        obtain rfl := own_R.yes c283 ⟨e280.trans own_mk0, e281.trans own_mk0⟩
        show Go p e below _ (T283.setTop (mkF m 190 #[.val (.int i0), .val (.int i1), .val (.int i2), .val (.int i3), .val (.int i4), .val (.int i5), .val (.int uu), .val (.int pp), .val (.ref b1), .val (.ref b2), .val (.int (i5 &&& (7 : Int32))), .val (.int (1 : Int32))] [(.int (1 : Int32))]))
        refine g_iload D283 192 at_190 rfl rfl ?_
        refine g_icmpN D283 195 at_192 (by decide) rfl ?_
        refine g_getS D283 198 (hw _ w_105) Via.refl (SO.ext OLD2.2) at_195 rfl ?_
        intro T284 D284
        refine g_aload D284 200 at_198 rfl rfl rfl ?_
        refine g_callVp D284 203 (hw _ w_63) (hw _ w_64) (notFace_of_selects (args := #[]) (mvT D284.wm (hw _ w_66))) (hw _ w_66) (hw _ w_65) (by decide) ((cEq2 l Z a0 hw [] G0 b1 .null v1 .null w1 none _ none _ zc h2 n0 Z2 OLD2 CS hzc A1' n1G.symm FO1' FU1' FO2' FP1' (Or.inl ⟨rfl, rfl⟩) OU1' (Or.inl ⟨rfl, rfl⟩) OP1' (fun _ q _ => nomatch q) (fun _ q _ => nomatch q)).back D284 0 (hw _ w_67) (hw _ w_2) (by decide) (by decide)) EO' rfl [(.ref b1)] rfl (lenOf pd_11 rfl) rfl (Nat.le_of_eq rfl) (by decide) (by decide) at_200 rfl ?_
        intro v285 T285 q285 D285
        obtain ⟨r285, rfl, c285⟩ := q285
        obtain rfl := own_R.yes c285 ⟨(e280.trans own_mk0).symm, (e281.trans own_mk0).symm⟩
        show Go p e below _ (T285.setTop (mkF m 203 #[.val (.int i0), .val (.int i1), .val (.int i2), .val (.int i3), .val (.int i4), .val (.int i5), .val (.int uu), .val (.int pp), .val (.ref b1), .val (.ref b2), .val (.int (i5 &&& (7 : Int32))), .val (.int (1 : Int32))] [(.int (1 : Int32))]))
        refine g_iload D285 205 at_203 rfl rfl ?_
        refine g_icmpN D285 208 at_205 (by decide) rfl ?_
        refine g_iconst D285 209 (1 : Int32) at_208 rfl rfl ?_
        refine g_goto D285 213 at_209 (by decide) (by decide) ?_
        exact r_Nw D285 hEW hret (by simp) hlk at_213 ⟨own_r1, NF2⟩ (by decide) (by decide)
      · show Go p e below _ (T281.setTop (mkF m 172 #[.val (.int i0), .val (.int i1), .val (.int i2), .val (.int i3), .val (.int i4), .val (.int i5), .val (.int uu), .val (.int pp), .val (.ref b1), .val (.ref b2), .val (.int (i5 &&& (7 : Int32))), .unset] [(.int (0 : Int32))]))
        refine g_ifY D281 179 at_172 (by decide) (by decide) (by decide) ?_
        refine g_iconst D281 180 (0 : Int32) at_179 rfl rfl ?_
        refine g_istore D281 182 #[.val (.int i0), .val (.int i1), .val (.int i2), .val (.int i3), .val (.int i4), .val (.int i5), .val (.int uu), .val (.int pp), .val (.ref b1), .val (.ref b2), .val (.int (i5 &&& (7 : Int32))), .val (.int (0 : Int32))] at_180 rfl rfl ?_
        refine g_aload D281 184 at_182 rfl rfl rfl ?_
        refine g_getS D281 187 (hw _ w_105) Via.refl (SO.ext OLD2.2) at_184 rfl ?_
        intro T286 D286
        refine g_callVp D286 190 (hw _ w_63) (hw _ w_64) (notFace_of_selects (args := #[]) (mvT D286.wm (hw _ w_66))) (hw _ w_66) (hw _ w_65) (by decide) ((cEq2 l Z a0 hw [] b1 G0 v1 .null w1 .null _ none _ none zc h2 n0 Z2 OLD2 CS hzc EO' n1G FU1' FO1' FP1' FO2' OU1' (Or.inl ⟨rfl, rfl⟩) OP1' (Or.inl ⟨rfl, rfl⟩) (fun _ _ q => nomatch q) (fun _ _ q => nomatch q)).back D286 0 (hw _ w_67) (hw _ w_2) (by decide) (by decide)) A1' rfl [(.ref G0)] rfl (lenOf pd_11 rfl) rfl (Nat.le_of_eq rfl) (by decide) (by decide) at_187 rfl ?_
        intro v287 T287 q287 D287
        obtain ⟨r287, rfl, c287⟩ := q287
        obtain rfl := own_R.no c287 (fun q => e281 (q.2.trans own_mk0.symm))
        show Go p e below _ (T287.setTop (mkF m 190 #[.val (.int i0), .val (.int i1), .val (.int i2), .val (.int i3), .val (.int i4), .val (.int i5), .val (.int uu), .val (.int pp), .val (.ref b1), .val (.ref b2), .val (.int (i5 &&& (7 : Int32))), .val (.int (0 : Int32))] [(.int (0 : Int32))]))
        refine g_iload D287 192 at_190 rfl rfl ?_
        refine g_icmpN D287 195 at_192 (by decide) rfl ?_
        refine g_getS D287 198 (hw _ w_105) Via.refl (SO.ext OLD2.2) at_195 rfl ?_
        intro T288 D288
        refine g_aload D288 200 at_198 rfl rfl rfl ?_
        refine g_callVp D288 203 (hw _ w_63) (hw _ w_64) (notFace_of_selects (args := #[]) (mvT D288.wm (hw _ w_66))) (hw _ w_66) (hw _ w_65) (by decide) ((cEq2 l Z a0 hw [] G0 b1 .null v1 .null w1 none _ none _ zc h2 n0 Z2 OLD2 CS hzc A1' n1G.symm FO1' FU1' FO2' FP1' (Or.inl ⟨rfl, rfl⟩) OU1' (Or.inl ⟨rfl, rfl⟩) OP1' (fun _ q _ => nomatch q) (fun _ q _ => nomatch q)).back D288 0 (hw _ w_67) (hw _ w_2) (by decide) (by decide)) EO' rfl [(.ref b1)] rfl (lenOf pd_11 rfl) rfl (Nat.le_of_eq rfl) (by decide) (by decide) at_200 rfl ?_
        intro v289 T289 q289 D289
        obtain ⟨r289, rfl, c289⟩ := q289
        obtain rfl := own_R.no c289 (fun q => e281 (q.2.symm.trans own_mk0.symm))
        show Go p e below _ (T289.setTop (mkF m 203 #[.val (.int i0), .val (.int i1), .val (.int i2), .val (.int i3), .val (.int i4), .val (.int i5), .val (.int uu), .val (.int pp), .val (.ref b1), .val (.ref b2), .val (.int (i5 &&& (7 : Int32))), .val (.int (0 : Int32))] [(.int (0 : Int32))]))
        refine g_iload D289 205 at_203 rfl rfl ?_
        refine g_icmpN D289 208 at_205 (by decide) rfl ?_
        refine g_iconst D289 209 (1 : Int32) at_208 rfl rfl ?_
        refine g_goto D289 213 at_209 (by decide) (by decide) ?_
        exact r_Nw D289 hEW hret (by simp) hlk at_213 ⟨own_r1, NF2⟩ (by decide) (by decide)
    · show Go p e below _ (T280.setTop (mkF m 164 #[.val (.int i0), .val (.int i1), .val (.int i2), .val (.int i3), .val (.int i4), .val (.int i5), .val (.int uu), .val (.int pp), .val (.ref b1), .val (.ref b2), .val (.int (i5 &&& (7 : Int32))), .unset] [(.int (0 : Int32))]))
      refine g_ifY D280 179 at_164 (by decide) (by decide) (by decide) ?_
      refine g_iconst D280 180 (0 : Int32) at_179 rfl rfl ?_
      refine g_istore D280 182 #[.val (.int i0), .val (.int i1), .val (.int i2), .val (.int i3), .val (.int i4), .val (.int i5), .val (.int uu), .val (.int pp), .val (.ref b1), .val (.ref b2), .val (.int (i5 &&& (7 : Int32))), .val (.int (0 : Int32))] at_180 rfl rfl ?_
      refine g_aload D280 184 at_182 rfl rfl rfl ?_
      refine g_getS D280 187 (hw _ w_105) Via.refl (SO.ext OLD2.2) at_184 rfl ?_
      intro T290 D290
      refine g_callVp D290 190 (hw _ w_63) (hw _ w_64) (notFace_of_selects (args := #[]) (mvT D290.wm (hw _ w_66))) (hw _ w_66) (hw _ w_65) (by decide) ((cEq2 l Z a0 hw [] b1 G0 v1 .null w1 .null _ none _ none zc h2 n0 Z2 OLD2 CS hzc EO' n1G FU1' FO1' FP1' FO2' OU1' (Or.inl ⟨rfl, rfl⟩) OP1' (Or.inl ⟨rfl, rfl⟩) (fun _ _ q => nomatch q) (fun _ _ q => nomatch q)).back D290 0 (hw _ w_67) (hw _ w_2) (by decide) (by decide)) A1' rfl [(.ref G0)] rfl (lenOf pd_11 rfl) rfl (Nat.le_of_eq rfl) (by decide) (by decide) at_187 rfl ?_
      intro v291 T291 q291 D291
      obtain ⟨r291, rfl, c291⟩ := q291
      obtain rfl := own_R.no c291 (fun q => e280 (q.1.trans own_mk0.symm))
      show Go p e below _ (T291.setTop (mkF m 190 #[.val (.int i0), .val (.int i1), .val (.int i2), .val (.int i3), .val (.int i4), .val (.int i5), .val (.int uu), .val (.int pp), .val (.ref b1), .val (.ref b2), .val (.int (i5 &&& (7 : Int32))), .val (.int (0 : Int32))] [(.int (0 : Int32))]))
      refine g_iload D291 192 at_190 rfl rfl ?_
      refine g_icmpN D291 195 at_192 (by decide) rfl ?_
      refine g_getS D291 198 (hw _ w_105) Via.refl (SO.ext OLD2.2) at_195 rfl ?_
      intro T292 D292
      refine g_aload D292 200 at_198 rfl rfl rfl ?_
      refine g_callVp D292 203 (hw _ w_63) (hw _ w_64) (notFace_of_selects (args := #[]) (mvT D292.wm (hw _ w_66))) (hw _ w_66) (hw _ w_65) (by decide) ((cEq2 l Z a0 hw [] G0 b1 .null v1 .null w1 none _ none _ zc h2 n0 Z2 OLD2 CS hzc A1' n1G.symm FO1' FU1' FO2' FP1' (Or.inl ⟨rfl, rfl⟩) OU1' (Or.inl ⟨rfl, rfl⟩) OP1' (fun _ q _ => nomatch q) (fun _ q _ => nomatch q)).back D292 0 (hw _ w_67) (hw _ w_2) (by decide) (by decide)) EO' rfl [(.ref b1)] rfl (lenOf pd_11 rfl) rfl (Nat.le_of_eq rfl) (by decide) (by decide) at_200 rfl ?_
      intro v293 T293 q293 D293
      obtain ⟨r293, rfl, c293⟩ := q293
      obtain rfl := own_R.no c293 (fun q => e280 (q.1.symm.trans own_mk0.symm))
      show Go p e below _ (T293.setTop (mkF m 203 #[.val (.int i0), .val (.int i1), .val (.int i2), .val (.int i3), .val (.int i4), .val (.int i5), .val (.int uu), .val (.int pp), .val (.ref b1), .val (.ref b2), .val (.int (i5 &&& (7 : Int32))), .val (.int (0 : Int32))] [(.int (0 : Int32))]))
      refine g_iload D293 205 at_203 rfl rfl ?_
      refine g_icmpN D293 208 at_205 (by decide) rfl ?_
      refine g_iconst D293 209 (1 : Int32) at_208 rfl rfl ?_
      refine g_goto D293 213 at_209 (by decide) (by decide) ?_
      exact r_Nw D293 hEW hret (by simp) hlk at_213 ⟨own_r1, NF2⟩ (by decide) (by decide)
  refine g_icmpY D2 214 at_156 (feq d4).2 (by decide) (by decide) ?_
  refine g_iloadN D2 215 at_214 rfl rfl ?_
  refine g_iload D2 217 at_215 rfl rfl ?_
  refine g_callSp D2 220 (hw _ w_87) (hw _ w_88) (hw _ w_5) (hw _ w_89) (by decide) ((cSm l Z a0 hw [] i0 uu h2 n0 Z2).back D2 0 (hw _ w_89) (hw _ w_5) (by decide) (by decide)) rfl [(.int i0), (.int uu)] rfl (lenOf pd_15 rfl) rfl (Nat.le_of_eq rfl) (by decide) (by decide) at_217 rfl ?_
  intro v294 T294 q294 D294
  obtain ⟨_, rfl, ⟨rfl, e294⟩ | ⟨rfl, e294⟩⟩ := q294
  · show Go p e below _ (T294.setTop (mkF m 220 #[.val (.int i0), .val (.int i1), .val (.int i2), .val (.int i3), .val (.int i4), .val (.int i5), .val (.int uu), .val (.int pp), .val (.ref b1), .val (.ref b2), .val (.int (i5 &&& (7 : Int32))), .unset] [(.int (1 : Int32))]))
    refine g_ifN D294 223 at_220 (by decide) rfl ?_
    refine g_iloadN D294 224 at_223 rfl rfl ?_
    refine g_iload D294 226 at_224 rfl rfl ?_
    refine g_callSp D294 229 (hw _ w_87) (hw _ w_88) (hw _ w_5) (hw _ w_89) (by decide) ((cSm l Z a0 hw [] i1 pp h2 n0 Z2).back D294 0 (hw _ w_89) (hw _ w_5) (by decide) (by decide)) rfl [(.int i1), (.int pp)] rfl (lenOf pd_15 rfl) rfl (Nat.le_of_eq rfl) (by decide) (by decide) at_226 rfl ?_
    intro v295 T295 q295 D295
    obtain ⟨_, rfl, ⟨rfl, e295⟩ | ⟨rfl, e295⟩⟩ := q295
    · show Go p e below _ (T295.setTop (mkF m 229 #[.val (.int i0), .val (.int i1), .val (.int i2), .val (.int i3), .val (.int i4), .val (.int i5), .val (.int uu), .val (.int pp), .val (.ref b1), .val (.ref b2), .val (.int (i5 &&& (7 : Int32))), .unset] [(.int (1 : Int32))]))
      refine g_ifN D295 232 at_229 (by decide) rfl ?_
      refine g_iconst D295 233 (1 : Int32) at_232 rfl rfl ?_
      refine g_goto D295 237 at_233 (by decide) (by decide) ?_
      refine g_istore D295 239 #[.val (.int i0), .val (.int i1), .val (.int i2), .val (.int i3), .val (.int i4), .val (.int i5), .val (.int uu), .val (.int pp), .val (.ref b1), .val (.ref b2), .val (.int (i5 &&& (7 : Int32))), .val (.int (1 : Int32))] at_237 rfl rfl ?_
      refine g_aload D295 241 at_239 rfl rfl rfl ?_
      refine g_aload D295 243 at_241 rfl rfl rfl ?_
      refine g_callVp D295 246 (hw _ w_63) (hw _ w_64) (notFace_of_selects (args := #[]) (mvT D295.wm (hw _ w_66))) (hw _ w_66) (hw _ w_65) (by decide) ((cEq2 l Z a0 hw [] b1 b2 v1 v2 w1 w2 _ _ _ _ zc h2 n0 Z2 OLD2 CS hzc A2 n12 FU1' FU2 FP1' FP2 OU1' OU2 OP1' OP2 hu hp).back D295 0 (hw _ w_67) (hw _ w_2) (by decide) (by decide)) A1' rfl [(.ref b2)] rfl (lenOf pd_11 rfl) rfl (Nat.le_of_eq rfl) (by decide) (by decide) at_243 rfl ?_
      intro v296 T296 q296 D296
      obtain ⟨r296, rfl, c296⟩ := q296
      obtain rfl := own_R.yes c296 ⟨e294, e295⟩
      show Go p e below _ (T296.setTop (mkF m 246 #[.val (.int i0), .val (.int i1), .val (.int i2), .val (.int i3), .val (.int i4), .val (.int i5), .val (.int uu), .val (.int pp), .val (.ref b1), .val (.ref b2), .val (.int (i5 &&& (7 : Int32))), .val (.int (1 : Int32))] [(.int (1 : Int32))]))
      refine g_iload D296 248 at_246 rfl rfl ?_
      refine g_icmpN D296 251 at_248 (by decide) rfl ?_
      refine g_aload D296 253 at_251 rfl rfl rfl ?_
      refine g_aload D296 255 at_253 rfl rfl rfl ?_
      refine g_callVp D296 258 (hw _ w_63) (hw _ w_64) (notFace_of_selects (args := #[]) (mvT D296.wm (hw _ w_66))) (hw _ w_66) (hw _ w_65) (by decide) ((cEq2 l Z a0 hw [] b2 b1 v2 v1 w2 w1 _ _ _ _ zc h2 n0 Z2 OLD2 CS hzc A1' n12.symm FU2 FU1' FP2 FP1' OU2 OU1' OP2 OP1' (fun a q r => hu a r q) (fun a q r => hp a r q)).back D296 0 (hw _ w_67) (hw _ w_2) (by decide) (by decide)) A2 rfl [(.ref b1)] rfl (lenOf pd_11 rfl) rfl (Nat.le_of_eq rfl) (by decide) (by decide) at_255 rfl ?_
      intro v297 T297 q297 D297
      obtain ⟨r297, rfl, c297⟩ := q297
      obtain rfl := own_R.yes c297 ⟨e294.symm, e295.symm⟩
      show Go p e below _ (T297.setTop (mkF m 258 #[.val (.int i0), .val (.int i1), .val (.int i2), .val (.int i3), .val (.int i4), .val (.int i5), .val (.int uu), .val (.int pp), .val (.ref b1), .val (.ref b2), .val (.int (i5 &&& (7 : Int32))), .val (.int (1 : Int32))] [(.int (1 : Int32))]))
      refine g_iload D297 260 at_258 rfl rfl ?_
      refine g_icmpN D297 263 at_260 (by decide) rfl ?_
      refine g_iconst D297 264 (1 : Int32) at_263 rfl rfl ?_
      refine g_goto D297 268 at_264 (by decide) (by decide) ?_
      exact r_Nw D297 hEW hret (by simp) hlk at_268 ⟨own_r1, NF2⟩ (by decide) (by decide)
    · show Go p e below _ (T295.setTop (mkF m 229 #[.val (.int i0), .val (.int i1), .val (.int i2), .val (.int i3), .val (.int i4), .val (.int i5), .val (.int uu), .val (.int pp), .val (.ref b1), .val (.ref b2), .val (.int (i5 &&& (7 : Int32))), .unset] [(.int (0 : Int32))]))
      refine g_ifY D295 236 at_229 (by decide) (by decide) (by decide) ?_
      refine g_iconst D295 237 (0 : Int32) at_236 rfl rfl ?_
      refine g_istore D295 239 #[.val (.int i0), .val (.int i1), .val (.int i2), .val (.int i3), .val (.int i4), .val (.int i5), .val (.int uu), .val (.int pp), .val (.ref b1), .val (.ref b2), .val (.int (i5 &&& (7 : Int32))), .val (.int (0 : Int32))] at_237 rfl rfl ?_
      refine g_aload D295 241 at_239 rfl rfl rfl ?_
      refine g_aload D295 243 at_241 rfl rfl rfl ?_
      refine g_callVp D295 246 (hw _ w_63) (hw _ w_64) (notFace_of_selects (args := #[]) (mvT D295.wm (hw _ w_66))) (hw _ w_66) (hw _ w_65) (by decide) ((cEq2 l Z a0 hw [] b1 b2 v1 v2 w1 w2 _ _ _ _ zc h2 n0 Z2 OLD2 CS hzc A2 n12 FU1' FU2 FP1' FP2 OU1' OU2 OP1' OP2 hu hp).back D295 0 (hw _ w_67) (hw _ w_2) (by decide) (by decide)) A1' rfl [(.ref b2)] rfl (lenOf pd_11 rfl) rfl (Nat.le_of_eq rfl) (by decide) (by decide) at_243 rfl ?_
      intro v298 T298 q298 D298
      obtain ⟨r298, rfl, c298⟩ := q298
      obtain rfl := own_R.no c298 (fun q => e295 q.2)
      show Go p e below _ (T298.setTop (mkF m 246 #[.val (.int i0), .val (.int i1), .val (.int i2), .val (.int i3), .val (.int i4), .val (.int i5), .val (.int uu), .val (.int pp), .val (.ref b1), .val (.ref b2), .val (.int (i5 &&& (7 : Int32))), .val (.int (0 : Int32))] [(.int (0 : Int32))]))
      refine g_iload D298 248 at_246 rfl rfl ?_
      refine g_icmpN D298 251 at_248 (by decide) rfl ?_
      refine g_aload D298 253 at_251 rfl rfl rfl ?_
      refine g_aload D298 255 at_253 rfl rfl rfl ?_
      refine g_callVp D298 258 (hw _ w_63) (hw _ w_64) (notFace_of_selects (args := #[]) (mvT D298.wm (hw _ w_66))) (hw _ w_66) (hw _ w_65) (by decide) ((cEq2 l Z a0 hw [] b2 b1 v2 v1 w2 w1 _ _ _ _ zc h2 n0 Z2 OLD2 CS hzc A1' n12.symm FU2 FU1' FP2 FP1' OU2 OU1' OP2 OP1' (fun a q r => hu a r q) (fun a q r => hp a r q)).back D298 0 (hw _ w_67) (hw _ w_2) (by decide) (by decide)) A2 rfl [(.ref b1)] rfl (lenOf pd_11 rfl) rfl (Nat.le_of_eq rfl) (by decide) (by decide) at_255 rfl ?_
      intro v299 T299 q299 D299
      obtain ⟨r299, rfl, c299⟩ := q299
      obtain rfl := own_R.no c299 (fun q => e295 q.2.symm)
      show Go p e below _ (T299.setTop (mkF m 258 #[.val (.int i0), .val (.int i1), .val (.int i2), .val (.int i3), .val (.int i4), .val (.int i5), .val (.int uu), .val (.int pp), .val (.ref b1), .val (.ref b2), .val (.int (i5 &&& (7 : Int32))), .val (.int (0 : Int32))] [(.int (0 : Int32))]))
      refine g_iload D299 260 at_258 rfl rfl ?_
      refine g_icmpN D299 263 at_260 (by decide) rfl ?_
      refine g_iconst D299 264 (1 : Int32) at_263 rfl rfl ?_
      refine g_goto D299 268 at_264 (by decide) (by decide) ?_
      exact r_Nw D299 hEW hret (by simp) hlk at_268 ⟨own_r1, NF2⟩ (by decide) (by decide)
  · show Go p e below _ (T294.setTop (mkF m 220 #[.val (.int i0), .val (.int i1), .val (.int i2), .val (.int i3), .val (.int i4), .val (.int i5), .val (.int uu), .val (.int pp), .val (.ref b1), .val (.ref b2), .val (.int (i5 &&& (7 : Int32))), .unset] [(.int (0 : Int32))]))
    refine g_ifY D294 236 at_220 (by decide) (by decide) (by decide) ?_
    refine g_iconst D294 237 (0 : Int32) at_236 rfl rfl ?_
    refine g_istore D294 239 #[.val (.int i0), .val (.int i1), .val (.int i2), .val (.int i3), .val (.int i4), .val (.int i5), .val (.int uu), .val (.int pp), .val (.ref b1), .val (.ref b2), .val (.int (i5 &&& (7 : Int32))), .val (.int (0 : Int32))] at_237 rfl rfl ?_
    refine g_aload D294 241 at_239 rfl rfl rfl ?_
    refine g_aload D294 243 at_241 rfl rfl rfl ?_
    refine g_callVp D294 246 (hw _ w_63) (hw _ w_64) (notFace_of_selects (args := #[]) (mvT D294.wm (hw _ w_66))) (hw _ w_66) (hw _ w_65) (by decide) ((cEq2 l Z a0 hw [] b1 b2 v1 v2 w1 w2 _ _ _ _ zc h2 n0 Z2 OLD2 CS hzc A2 n12 FU1' FU2 FP1' FP2 OU1' OU2 OP1' OP2 hu hp).back D294 0 (hw _ w_67) (hw _ w_2) (by decide) (by decide)) A1' rfl [(.ref b2)] rfl (lenOf pd_11 rfl) rfl (Nat.le_of_eq rfl) (by decide) (by decide) at_243 rfl ?_
    intro v300 T300 q300 D300
    obtain ⟨r300, rfl, c300⟩ := q300
    obtain rfl := own_R.no c300 (fun q => e294 q.1)
    show Go p e below _ (T300.setTop (mkF m 246 #[.val (.int i0), .val (.int i1), .val (.int i2), .val (.int i3), .val (.int i4), .val (.int i5), .val (.int uu), .val (.int pp), .val (.ref b1), .val (.ref b2), .val (.int (i5 &&& (7 : Int32))), .val (.int (0 : Int32))] [(.int (0 : Int32))]))
    refine g_iload D300 248 at_246 rfl rfl ?_
    refine g_icmpN D300 251 at_248 (by decide) rfl ?_
    refine g_aload D300 253 at_251 rfl rfl rfl ?_
    refine g_aload D300 255 at_253 rfl rfl rfl ?_
    refine g_callVp D300 258 (hw _ w_63) (hw _ w_64) (notFace_of_selects (args := #[]) (mvT D300.wm (hw _ w_66))) (hw _ w_66) (hw _ w_65) (by decide) ((cEq2 l Z a0 hw [] b2 b1 v2 v1 w2 w1 _ _ _ _ zc h2 n0 Z2 OLD2 CS hzc A1' n12.symm FU2 FU1' FP2 FP1' OU2 OU1' OP2 OP1' (fun a q r => hu a r q) (fun a q r => hp a r q)).back D300 0 (hw _ w_67) (hw _ w_2) (by decide) (by decide)) A2 rfl [(.ref b1)] rfl (lenOf pd_11 rfl) rfl (Nat.le_of_eq rfl) (by decide) (by decide) at_255 rfl ?_
    intro v301 T301 q301 D301
    obtain ⟨r301, rfl, c301⟩ := q301
    obtain rfl := own_R.no c301 (fun q => e294 q.1.symm)
    show Go p e below _ (T301.setTop (mkF m 258 #[.val (.int i0), .val (.int i1), .val (.int i2), .val (.int i3), .val (.int i4), .val (.int i5), .val (.int uu), .val (.int pp), .val (.ref b1), .val (.ref b2), .val (.int (i5 &&& (7 : Int32))), .val (.int (0 : Int32))] [(.int (0 : Int32))]))
    refine g_iload D301 260 at_258 rfl rfl ?_
    refine g_icmpN D301 263 at_260 (by decide) rfl ?_
    refine g_iconst D301 264 (1 : Int32) at_263 rfl rfl ?_
    refine g_goto D301 268 at_264 (by decide) (by decide) ?_
    exact r_Nw D301 hEW hret (by simp) hlk at_268 ⟨own_r1, NF2⟩ (by decide) (by decide)
set_option maxRecDepth 65536 in
set_option maxHeartbeats 40000000 in
theorem comes_1 {Post : Tables → Env → Array Value → State → Outcome → State → Prop} (hpost : ∀ tb e args s v u, (limb_1_1.after args s (.returned v) u = true ∧ limb_1_2.after args s (.returned v) u = true ∧ True) → ReturnedEndW s (.returned v) u (Jvm.fieldLocs frame_1_writes args s ++ Jvm.arrayLocs frame_1_arrays args s ++ Jvm.staticLocs frame_1_statics s) 48 1216 → Post tb e args s (.returned v) u) :
    ArmFor flags0 classFile x code maxLocals ret World_1 tables_1 room_1 Calls_1 rest_1 Pre_1 Post := by
  intro l hfl _ _ p e ha hc hk s m args below hf hA hF happ hP
  obtain ⟨hcalls, hrest, hpre⟩ := hP
  obtain ⟨-, -, -, hnamed, -, -, -, hat⟩ := (Spec.applies_iff hf).mp happ
  obtain ⟨hg, hn⟩ := and_e (Cond.before_iff.mp (show (Jvm.Cond.and given_1 narrow_1).before args s = true from hpre))
  obtain ⟨g1, gr1⟩ := and_e hg
  obtain ⟨g2, gr2⟩ := and_e gr1
  obtain ⟨g3, gr3⟩ := and_e gr2
  obtain ⟨g4, gr4⟩ := and_e gr3
  obtain ⟨g5, gr5⟩ := and_e gr4
  obtain ⟨g6, g7⟩ := and_e gr5
  obtain ⟨n1, nr1⟩ := and_e hn
  obtain ⟨n2, n3⟩ := and_e nr1
  obtain ⟨w0, w1, w2, w3, w4, w5, rfl⟩ : ∃ w0 w1 w2 w3 w4 w5 : Value, args = #[w0, w1, w2, w3, w4, w5] := by
    have hs : args.size = 6 := by simpa [Cond.value, given_1] using g1
    obtain ⟨L⟩ := args
    match L, hs with
    | [w0, w1, w2, w3, w4, w5], _ => exact ⟨w0, w1, w2, w3, w4, w5, rfl⟩
  have hw := fun d (hd : d ∈ tables_1) => atoms_spec (ws := Jvm.Cond.code x code maxLocals ret :: tables_1) hat d (List.mem_cons_of_mem _ hd)
  obtain ⟨hsets, hown0⟩ := atoms_of _ (rest_1_c_eq ▸ (show rest_1_c.before _ s = true from hrest))
  have hfit : Fit s := fun {y c} hc i hi => by
    obtain ⟨ha, rfl⟩ := Array.getElem?_eq_some_iff.mp hc
    have q := List.all_eq_true.mp ((Array.all_eq_true_iff_forall_mem.mp hF) _ (Array.getElem_mem ha)) i (List.mem_range.mpr hi)
    simpa [Array.getElem?_eq_getElem hi] using q
  have c3 := not_v (Cond.before_iff.mp (hsets _ (List.mem_of_getElem? (i := 2) rfl)))
  obtain ⟨i0, ei0⟩ := is_v g2
  obtain rfl : w0 = (.int i0) := Option.some.inj ei0
  obtain ⟨i1, ei1⟩ := is_v g3
  obtain rfl : w1 = (.int i1) := Option.some.inj ei1
  obtain ⟨i2, ei2⟩ := is_v g4
  obtain rfl : w2 = (.int i2) := Option.some.inj ei2
  obtain ⟨i3, ei3⟩ := is_v g5
  obtain rfl : w3 = (.int i3) := Option.some.inj ei3
  obtain ⟨i4, ei4⟩ := is_v g6
  obtain rfl : w4 = (.int i4) := Option.some.inj ei4
  obtain ⟨i5, ei5⟩ := is_v g7
  obtain rfl : w5 = (.int i5) := Option.some.inj ei5
  obtain ⟨zc, ec⟩ := is_v (Cond.before_iff.mp (hsets _ (List.mem_of_getElem? (i := 1) rfl)))
  have CS : Sta s s.heap "java/lang/String" "COMPACT_STRINGS" "Z" (.int zc) := Sta.start ec (Or.inl (hsets _ (List.mem_of_getElem? (i := 0) rfl)))
  have hzc : ¬ (zc = (0 : Int32)) := gotF (Cond.eq_ints ec (Term.int_eval (0))) c3
  obtain ⟨fm, ef, rfm⟩ := isR_v (Cond.before_iff.mp (hsets _ (List.mem_of_getElem? (i := 8) rfl)))
  have SF : Sta s s.heap "jdk/internal/util/Preconditions" "SIOOBE_FORMATTER" "Ljava/util/function/BiFunction;" fm := Sta.start ef (Or.inl (hsets _ (List.mem_of_getElem? (i := 7) rfl)))
  have hEW : EW s _ consts_1 := (EW.cons (hw _ w_21) (by decide) EW.nil)
  have hCH : CHv s consts_1 s.vm s.heap := CHv.start hEW hcalls.1 (hsets _ (List.mem_of_getElem? (i := 2) rfl)) (hw _ w_22) (hw _ w_9)
  obtain ⟨G0, eg⟩ := exa_v n1
  have SO : Sta s s.heap "com/example/pactum/pactum/model/Credentials" "OWN" "Lcom/example/pactum/pactum/model/Credentials;" (.ref G0) := Sta.start eg (Or.inr ⟨(hw _ w_2), (hw _ w_106)⟩)
  have EO : Exa s s.heap G0 "com/example/pactum/pactum/model/Credentials" := exa_at eg n1
  have FO1 : Fld s s.heap G0 "com/example/pactum/pactum/model/Credentials" "user" "Ljava/lang/String;" .null := Fld.start ((fld_at eg).symm.trans (null_v n2))
  have FO2 : Fld s s.heap G0 "com/example/pactum/pactum/model/Credentials" "password" "Ljava/lang/String;" .null := Fld.start ((fld_at eg).symm.trans (null_v n3))
  obtain ⟨n, o, h1, h2, h3, _, L, rfl, ⟨rfl, N⟩, -, hq⟩ := cX l s _ hw tables_1 i0 i1 i2 i3 i4 i5 zc G0 s.heap s.heap.size (Nat.le_refl _) hEW (Old.start s) CS hzc SO EO FO1 FO2 p e ha hc hk s m _ below hf ((Spec.applies_iff_loose hf).mp happ).1 ⟨rfl, State.Warmed39.refl s, rfl, hCH⟩ trivial
  refine ⟨n, _, h1, h2, h3, hpost _ _ _ _ _ _ ⟨Cond.after_iff.mpr rfl, Cond.after_iff.mpr (eq_i res_at (Term.int_eval (1)) rfl), trivial⟩ ⟨hq.1, hq.2.1, hq.2.2.1, (hq.2.2.2.sift fun y hy => Or.inr (N y hy)).mono (by decide) (by decide)⟩⟩
theorem main_1_1 : Claimed_1_1 := comes_1 fun _ _ _ _ _ _ h hF => ⟨h.1, hF⟩
theorem main_1_2 : Claimed_1_2 := comes_1 fun _ _ _ _ _ _ h hF => ⟨h.2.1, hF⟩
end Jvm.Pilot.@@N@@
namespace Jvm.Pilot.@@N@@
open Jvm Jvm.ClassFile Sem Op Lib Jvm.Free Jvm.Stand Jvm.Pilot.@@N@@.Jvm.D
/-! MADE BY PROGRAM (witnessworld.py) out of the Statement's table words and the real class files: 21 classes; the members and pool entries that the words name. The judged class is class 1, her method 3. -/
namespace start1
open Jvm.ClassFile
def u (s : String) : CpInfo := .utf8 (stringToUtf16 s)
/-- a pool by its gaps: so many unusable entries, then the entry; so many at the end -/
def gap : Nat → List CpInfo → List CpInfo
  | 0, r => r
  | n + 1, r => .unusable :: gap n r
def poolList (es : List (Nat × CpInfo)) (last : Nat) : List CpInfo := es.foldr (fun e r => gap e.1 (e.2 :: r)) (gap last [])
def pool (es : List (Nat × CpInfo)) (last : Nat) : Array CpInfo := ⟨poolList es last⟩
def fileOf (pool : Array CpInfo) (this : Nat) (attrs : Array Attribute := #[]) (ms : Array MethodInfo := #[]) (fl : Nat := 33) (sup : Nat := 0) (ifs : Array Nat := #[]) (fds : Array FieldInfo := #[]) : ClassFile where
  minorVersion := 0
  majorVersion := 65
  constantPool := pool
  accessFlags := fl
  thisClass := this
  superClass := sup
  interfaces := ifs
  fields := fds
  methods := ms
  attributes := attrs
def plain (name : String) (sup : Option ClassId) : Class where
  name := name
  kind := .ordinary
  loader := none
  accessFlags := 33
  super := sup
  interfaces := #[]
  cf := none
  fields := #[]
  methods := #[]
  instanceTypes := #[]
  staticTypes := #[]
  resolved := #[]
  callSites := []
  init := .initialized
  statics := none
  mirror := none

def pool0 : Array CpInfo := pool [(5, u "<init>"), (0, u "()V"), (1, .class_ 10), (1, u "java/lang/Object"), (16, u "hashCode"), (0, u "()I"), (63, u "equals"), (0, u "(Ljava/lang/Object;)Z")] 30

def k0c0 : Code := { maxStack := 0, maxLocals := 1, code := object_method_1_code, exceptionTable := #[], attributes := #[] }
def k0m0 : Method := { name := "<init>", desc := "()V", sig := { parameters := [], returnType := none }, accessFlags := 1, code := some k0c0 }
def k0m1 : Method := { name := "hashCode", desc := "()I", sig := { parameters := [], returnType := some .int }, accessFlags := 257, code := none }
def k0c2 : Code := { maxStack := 2, maxLocals := 2, code := ⟨#[0x2a, 0x2b, 0xa6, 0x00, 0x07, 0x04, 0xa7, 0x00, 0x04, 0x03, 0xac]⟩, exceptionTable := #[], attributes := #[] }
def k0m2 : Method := { name := "equals", desc := "(Ljava/lang/Object;)Z", sig := { parameters := [(.object "java/lang/Object")], returnType := some .boolean }, accessFlags := 1, code := some k0c2 }
/-- java/lang/Object -/
def k0 : Class := { plain "java/lang/Object" none with
  accessFlags := 33
  interfaces := #[]
  cf := some (fileOf pool0 8 #[] #[{ accessFlags := 1, nameIndex := 5, descriptorIndex := 6, attributes := #[] }, { accessFlags := 257, nameIndex := 27, descriptorIndex := 28, attributes := #[] }, { accessFlags := 1, nameIndex := 92, descriptorIndex := 93, attributes := #[] }] 33 0 #[] #[])
  fields := #[]
  methods := #[k0m0, k0m1, k0m2]
  instanceTypes := #[]
  staticTypes := #[]
  resolved := Array.replicate 124 none
  statics := none }

def pool1 : Array CpInfo := pool [(2, .class_ 4), (1, u "java/lang/Object"), (0, u "<init>"), (0, u "()V"), (0, .class_ 8), (0, u "java/lang/String"), (0, .methodref 7 10), (0, .nameAndType 5 11), (0, u "([C)V"), (0, .class_ 13), (0, u "com/example/pactum/pactum/model/Credentials"), (0, .methodref 15 16), (0, .class_ 17), (0, .nameAndType 18 19), (0, u "com/example/pactum/pactum/model/CredentialsEqualsPinLaw"), (0, u "mk"), (0, u "(I)Ljava/lang/String;"), (0, .methodref 12 21), (0, .nameAndType 5 22), (0, u "(Ljava/lang/String;Ljava/lang/String;)V"), (0, .methodref 12 24), (0, .nameAndType 25 26), (0, u "equals"), (0, u "(Ljava/lang/Object;)Z"), (0, .methodref 15 28), (0, .nameAndType 29 30), (0, u "sameStr"), (0, u "(II)Z"), (0, .fieldref 12 32), (0, .nameAndType 33 34), (0, u "OWN"), (0, u "Lcom/example/pactum/pactum/model/Credentials;"), (5, u "law"), (0, u "(IIIIII)Z")] 2

def k1m0 : Method := { name := "<init>", desc := "()V", sig := { parameters := [], returnType := none }, accessFlags := 1, code := none }
def k1c1 : Code := { maxStack := 4, maxLocals := 3, code := method_2_code, exceptionTable := #[], attributes := #[] }
def k1m1 : Method := { name := "mk", desc := "(I)Ljava/lang/String;", sig := { parameters := [.int], returnType := some (.object "java/lang/String") }, accessFlags := 10, code := some k1c1 }
def k1c2 : Code := { maxStack := 3, maxLocals := 6, code := method_3_code, exceptionTable := #[], attributes := #[] }
def k1m2 : Method := { name := "sameStr", desc := "(II)Z", sig := { parameters := [.int, .int], returnType := some .boolean }, accessFlags := 10, code := some k1c2 }
def k1c3 : Code := { maxStack := 4, maxLocals := 12, code := code, exceptionTable := #[], attributes := #[] }
def k1m3 : Method := { name := "law", desc := "(IIIIII)Z", sig := { parameters := [.int, .int, .int, .int, .int, .int], returnType := some .boolean }, accessFlags := 9, code := some k1c3 }
/-- com/example/pactum/pactum/model/CredentialsEqualsPinLaw -/
def k1 : Class := { plain "com/example/pactum/pactum/model/CredentialsEqualsPinLaw" (some 0) with
  accessFlags := 49
  interfaces := #[]
  cf := some (fileOf pool1 15 #[] #[{ accessFlags := 1, nameIndex := 5, descriptorIndex := 6, attributes := #[] }, { accessFlags := 10, nameIndex := 18, descriptorIndex := 19, attributes := #[] }, { accessFlags := 10, nameIndex := 29, descriptorIndex := 30, attributes := #[] }, { accessFlags := 9, nameIndex := 40, descriptorIndex := 41, attributes := #[] }] 49 2 #[] #[])
  fields := #[]
  methods := #[k1m0, k1m1, k1m2, k1m3]
  instanceTypes := #[]
  staticTypes := #[]
  resolved := Array.replicate 44 none
  statics := none }

def pool2 : Array CpInfo := pool [(1, .methodref 2 3), (0, .class_ 4), (0, .nameAndType 5 6), (0, u "java/lang/Object"), (0, u "<init>"), (0, u "()V"), (0, .fieldref 8 9), (0, .class_ 10), (0, .nameAndType 11 12), (0, u "com/example/pactum/pactum/model/Credentials"), (0, u "user"), (0, u "Ljava/lang/String;"), (0, .fieldref 8 14), (0, .nameAndType 15 12), (0, u "password"), (0, .methodref 17 18), (0, .class_ 19), (0, .nameAndType 20 21), (0, u "java/util/Objects"), (0, u "hashCode"), (0, u "(Ljava/lang/Object;)I"), (0, .fieldref 8 23), (0, .nameAndType 24 25), (0, u "hash"), (0, u "I"), (0, .methodref 17 27), (0, .nameAndType 28 29), (0, u "equals"), (0, u "(Ljava/lang/Object;Ljava/lang/Object;)Z"), (8, u "(Ljava/lang/String;Ljava/lang/String;)V"), (2, u "OWN"), (0, u "Lcom/example/pactum/pactum/model/Credentials;"), (3, u "(Ljava/lang/Object;)Z")] 23

def k2c0 : Code := { maxStack := 3, maxLocals := 3, code := prog_6_method_1_code, exceptionTable := #[], attributes := #[] }
def k2m0 : Method := { name := "<init>", desc := "(Ljava/lang/String;Ljava/lang/String;)V", sig := { parameters := [(.object "java/lang/String"), (.object "java/lang/String")], returnType := none }, accessFlags := 1, code := some k2c0 }
def k2c1 : Code := { maxStack := 2, maxLocals := 3, code := prog_6_method_4_code, exceptionTable := #[], attributes := #[] }
def k2m1 : Method := { name := "equals", desc := "(Ljava/lang/Object;)Z", sig := { parameters := [(.object "java/lang/Object")], returnType := some .boolean }, accessFlags := 1, code := some k2c1 }
/-- com/example/pactum/pactum/model/Credentials -/
def k2 : Class := { plain "com/example/pactum/pactum/model/Credentials" (some 0) with
  accessFlags := 33
  interfaces := #[]
  cf := some (fileOf pool2 8 #[] #[{ accessFlags := 1, nameIndex := 5, descriptorIndex := 38, attributes := #[] }, { accessFlags := 1, nameIndex := 28, descriptorIndex := 46, attributes := #[] }] 33 2 #[] #[{ accessFlags := 25, nameIndex := 41, descriptorIndex := 42, attributes := #[] }, { accessFlags := 18, nameIndex := 11, descriptorIndex := 12, attributes := #[] }, { accessFlags := 18, nameIndex := 15, descriptorIndex := 12, attributes := #[] }, { accessFlags := 18, nameIndex := 24, descriptorIndex := 25, attributes := #[] }])
  fields := #[{ name := "OWN", type := (.object "com/example/pactum/pactum/model/Credentials"), accessFlags := 25, slot := 0, constantValue := 0 }, { name := "user", type := (.object "java/lang/String"), accessFlags := 18, slot := 0, constantValue := 0 }, { name := "password", type := (.object "java/lang/String"), accessFlags := 18, slot := 1, constantValue := 0 }, { name := "hash", type := .int, accessFlags := 18, slot := 2, constantValue := 0 }]
  methods := #[k2m0, k2m1]
  instanceTypes := #[(.object "java/lang/String"), (.object "java/lang/String"), .int]
  staticTypes := #[(.object "com/example/pactum/pactum/model/Credentials")]
  resolved := Array.replicate 70 none
  statics := some 0 }

def pool3 : Array CpInfo := pool [(1, .class_ 2), (0, u "java/io/Serializable"), (0, .class_ 4), (0, u "java/lang/Object")] 2

/-- java/io/Serializable -/
def k3 : Class := { plain "java/io/Serializable" (some 0) with
  accessFlags := 1537
  interfaces := #[]
  cf := some (fileOf pool3 1 #[] #[] 1537 3 #[] #[])
  fields := #[]
  methods := #[]
  instanceTypes := #[]
  staticTypes := #[]
  resolved := Array.replicate 7 none
  statics := none }

def pool4 : Array CpInfo := pool [(1, .class_ 2), (0, u "java/lang/Comparable"), (0, .class_ 4), (0, u "java/lang/Object")] 7

/-- java/lang/Comparable -/
def k4 : Class := { plain "java/lang/Comparable" (some 0) with
  accessFlags := 1537
  interfaces := #[]
  cf := some (fileOf pool4 1 #[] #[] 1537 3 #[] #[])
  fields := #[]
  methods := #[]
  instanceTypes := #[]
  staticTypes := #[]
  resolved := Array.replicate 12 none
  statics := none }

def pool5 : Array CpInfo := pool [(2, .class_ 4), (1, u "java/lang/CharSequence"), (42, .class_ 48), (0, u "java/lang/CharSequence$1CodePointIterator"), (10, .class_ 60), (0, u "java/lang/CharSequence$1CharIterator"), (5, .class_ 67), (0, u "java/lang/Object")] 63

/-- java/lang/CharSequence -/
def k5 : Class := { plain "java/lang/CharSequence" (some 0) with
  accessFlags := 1537
  interfaces := #[]
  cf := some (fileOf pool5 2 #[.nestMembers #[47, 59]] #[] 1537 66 #[] #[])
  fields := #[]
  methods := #[]
  instanceTypes := #[]
  staticTypes := #[]
  resolved := Array.replicate 131 none
  statics := none }

def pool6 : Array CpInfo := pool [(1, .class_ 2), (0, u "java/lang/constant/Constable"), (0, .class_ 4), (0, u "java/lang/Object")] 6

/-- java/lang/constant/Constable -/
def k6 : Class := { plain "java/lang/constant/Constable" (some 0) with
  accessFlags := 1537
  interfaces := #[]
  cf := some (fileOf pool6 1 #[] #[] 1537 3 #[] #[])
  fields := #[]
  methods := #[]
  instanceTypes := #[]
  staticTypes := #[]
  resolved := Array.replicate 11 none
  statics := none }

def pool7 : Array CpInfo := pool [(1, .class_ 2), (0, u "java/lang/constant/ConstantDesc"), (0, .class_ 4), (0, u "java/lang/Object")] 32

/-- java/lang/constant/ConstantDesc -/
def k7 : Class := { plain "java/lang/constant/ConstantDesc" (some 0) with
  accessFlags := 1537
  interfaces := #[]
  cf := some (fileOf pool7 1 #[] #[] 1537 3 #[] #[])
  fields := #[]
  methods := #[]
  instanceTypes := #[]
  staticTypes := #[]
  resolved := Array.replicate 37 none
  statics := none }

def pool8 : Array CpInfo := pool [(1, .methodref 2 3), (0, .class_ 4), (0, .nameAndType 5 6), (0, u "java/lang/Object"), (0, u "<init>"), (0, u "()V"), (0, .string 8), (0, u ""), (0, .fieldref 10 11), (0, .class_ 12), (0, .nameAndType 13 14), (0, u "java/lang/String"), (0, u "value"), (0, u "[B"), (0, .fieldref 10 16), (0, .nameAndType 17 18), (0, u "coder"), (0, u "B"), (0, .fieldref 10 20), (0, .nameAndType 21 22), (0, u "hash"), (0, u "I"), (0, .fieldref 10 24), (0, .nameAndType 25 26), (0, u "hashIsZero"), (0, u "Z"), (0, .methodref 10 28), (0, .nameAndType 5 29), (0, u "([CIILjava/lang/Void;)V"), (8, .fieldref 10 39), (0, .nameAndType 40 26), (0, u "COMPACT_STRINGS"), (1, .class_ 44), (1, u "java/lang/StringUTF16"), (0, u "compress"), (1, .methodref 42 48), (0, .nameAndType 49 50), (0, u "coderFromArrayLen"), (0, u "([BI)B"), (56, .class_ 109), (1, u "java/lang/StringLatin1"), (32, u "()Z"), (34, .methodref 42 178), (0, .nameAndType 45 179), (0, u "([CII)[B"), (154, u "()I"), (157, .methodref 10 493), (0, .nameAndType 494 142), (0, u "isLatin1"), (46, .methodref 107 542), (0, .nameAndType 543 544), (0, u "equals"), (0, u "([B[B)Z"), (28, u "(Ljava/lang/Object;)Z"), (1, .class_ 576), (0, u "java/lang/CharSequence"), (22, u "CASE_INSENSITIVE_ORDER"), (0, u "Ljava/util/Comparator;"), (27, .methodref 107 629), (0, .nameAndType 630 631), (0, u "hashCode"), (0, u "([B)I"), (378, u "([C)V"), (90, u "serialPersistentFields"), (0, u "[Ljava/io/ObjectStreamField;"), (0, .class_ 1104), (0, u "java/lang/String$CaseInsensitiveComparator"), (1, .class_ 1107), (0, u "java/io/Serializable"), (0, .class_ 1109), (0, u "java/lang/Comparable"), (0, .class_ 1111), (0, u "java/lang/constant/Constable"), (0, .class_ 1113), (0, u "java/lang/constant/ConstantDesc"), (2, u "serialVersionUID"), (0, u "J"), (3, u "REPL"), (0, u "C"), (2, u "LATIN1"), (1, u "UTF16")] 323

def k8m0 : Method := { name := "<init>", desc := "()V", sig := { parameters := [], returnType := none }, accessFlags := 1, code := none }
def k8c1 : Code := { maxStack := 5, maxLocals := 2, code := jdk_42_method_3_code, exceptionTable := #[], attributes := #[] }
def k8m1 : Method := { name := "<init>", desc := "([C)V", sig := { parameters := [(.array .char)], returnType := none }, accessFlags := 1, code := some k8c1 }
def k8c2 : Code := { maxStack := 2, maxLocals := 3, code := jdk_42_method_66_code, exceptionTable := #[], attributes := #[] }
def k8m2 : Method := { name := "equals", desc := "(Ljava/lang/Object;)Z", sig := { parameters := [(.object "java/lang/Object")], returnType := some .boolean }, accessFlags := 1, code := some k8c2 }
def k8c3 : Code := { maxStack := 2, maxLocals := 2, code := jdk_42_method_78_code, exceptionTable := #[], attributes := #[] }
def k8m3 : Method := { name := "hashCode", desc := "()I", sig := { parameters := [], returnType := some .int }, accessFlags := 1, code := some k8c3 }
def k8c4 : Code := { maxStack := 4, maxLocals := 6, code := jdk_42_method_149_code, exceptionTable := #[], attributes := #[] }
def k8m4 : Method := { name := "<init>", desc := "([CIILjava/lang/Void;)V", sig := { parameters := [(.array .char), .int, .int, (.object "java/lang/Void")], returnType := none }, accessFlags := 2, code := some k8c4 }
def k8c5 : Code := { maxStack := 1, maxLocals := 1, code := jdk_42_method_154_code, exceptionTable := #[], attributes := #[] }
def k8m5 : Method := { name := "isLatin1", desc := "()Z", sig := { parameters := [], returnType := some .boolean }, accessFlags := 0, code := some k8c5 }
/-- java/lang/String -/
def k8 : Class := { plain "java/lang/String" (some 0) with
  accessFlags := 49
  interfaces := #[3, 4, 5, 6, 7]
  cf := some (fileOf pool8 10 #[.nestMembers #[1103]] #[{ accessFlags := 1, nameIndex := 5, descriptorIndex := 6, attributes := #[] }, { accessFlags := 1, nameIndex := 5, descriptorIndex := 1010, attributes := #[] }, { accessFlags := 1, nameIndex := 543, descriptorIndex := 573, attributes := #[] }, { accessFlags := 1, nameIndex := 630, descriptorIndex := 334, attributes := #[] }, { accessFlags := 2, nameIndex := 5, descriptorIndex := 29, attributes := #[] }, { accessFlags := 0, nameIndex := 494, descriptorIndex := 142, attributes := #[] }] 49 2 #[1106, 1108, 575, 1110, 1112] #[{ accessFlags := 18, nameIndex := 13, descriptorIndex := 14, attributes := #[] }, { accessFlags := 18, nameIndex := 17, descriptorIndex := 18, attributes := #[] }, { accessFlags := 2, nameIndex := 21, descriptorIndex := 22, attributes := #[] }, { accessFlags := 2, nameIndex := 25, descriptorIndex := 26, attributes := #[] }, { accessFlags := 26, nameIndex := 1116, descriptorIndex := 1117, attributes := #[] }, { accessFlags := 24, nameIndex := 40, descriptorIndex := 26, attributes := #[] }, { accessFlags := 26, nameIndex := 1101, descriptorIndex := 1102, attributes := #[] }, { accessFlags := 26, nameIndex := 1121, descriptorIndex := 1122, attributes := #[] }, { accessFlags := 25, nameIndex := 599, descriptorIndex := 600, attributes := #[] }, { accessFlags := 24, nameIndex := 1125, descriptorIndex := 18, attributes := #[] }, { accessFlags := 24, nameIndex := 1127, descriptorIndex := 18, attributes := #[] }])
  fields := #[{ name := "value", type := (.array .byte), accessFlags := 18, slot := 0, constantValue := 0 }, { name := "coder", type := .byte, accessFlags := 18, slot := 1, constantValue := 0 }, { name := "hash", type := .int, accessFlags := 2, slot := 2, constantValue := 0 }, { name := "hashIsZero", type := .boolean, accessFlags := 2, slot := 3, constantValue := 0 }, { name := "serialVersionUID", type := .long, accessFlags := 26, slot := 0, constantValue := 0 }, { name := "COMPACT_STRINGS", type := .boolean, accessFlags := 24, slot := 1, constantValue := 0 }, { name := "serialPersistentFields", type := (.array (.object "java/io/ObjectStreamField")), accessFlags := 26, slot := 2, constantValue := 0 }, { name := "REPL", type := .char, accessFlags := 26, slot := 3, constantValue := 0 }, { name := "CASE_INSENSITIVE_ORDER", type := (.object "java/util/Comparator"), accessFlags := 25, slot := 4, constantValue := 0 }, { name := "LATIN1", type := .byte, accessFlags := 24, slot := 5, constantValue := 0 }, { name := "UTF16", type := .byte, accessFlags := 24, slot := 6, constantValue := 0 }]
  methods := #[k8m0, k8m1, k8m2, k8m3, k8m4, k8m5]
  instanceTypes := #[(.array .byte), .byte, .int, .boolean]
  staticTypes := #[.long, .boolean, (.array (.object "java/io/ObjectStreamField")), .char, (.object "java/util/Comparator"), .byte, .byte]
  resolved := Array.replicate 1451 none
  statics := some 1 }

def pool9 : Array CpInfo := pool [(2, .class_ 4), (1, u "java/lang/Object"), (0, u "<init>"), (0, u "()V"), (7, .methodref 2 15), (0, .nameAndType 16 17), (0, u "equals"), (0, u "(Ljava/lang/Object;)Z"), (5, u "(Ljava/lang/Object;Ljava/lang/Object;)Z"), (0, .methodref 2 25), (0, .nameAndType 26 27), (0, u "hashCode"), (0, u "()I"), (14, .class_ 44), (1, u "java/util/Objects"), (25, u "(Ljava/lang/Object;)I")] 113

def k9m0 : Method := { name := "<init>", desc := "()V", sig := { parameters := [], returnType := none }, accessFlags := 2, code := none }
def k9c1 : Code := { maxStack := 2, maxLocals := 2, code := jdk_31_method_2_code, exceptionTable := #[], attributes := #[] }
def k9m1 : Method := { name := "equals", desc := "(Ljava/lang/Object;Ljava/lang/Object;)Z", sig := { parameters := [(.object "java/lang/Object"), (.object "java/lang/Object")], returnType := some .boolean }, accessFlags := 9, code := some k9c1 }
def k9c2 : Code := { maxStack := 1, maxLocals := 1, code := jdk_31_method_4_code, exceptionTable := #[], attributes := #[] }
def k9m2 : Method := { name := "hashCode", desc := "(Ljava/lang/Object;)I", sig := { parameters := [(.object "java/lang/Object")], returnType := some .int }, accessFlags := 9, code := some k9c2 }
/-- java/util/Objects -/
def k9 : Class := { plain "java/util/Objects" (some 0) with
  accessFlags := 49
  interfaces := #[]
  cf := some (fileOf pool9 42 #[] #[{ accessFlags := 2, nameIndex := 5, descriptorIndex := 6, attributes := #[] }, { accessFlags := 9, nameIndex := 16, descriptorIndex := 23, attributes := #[] }, { accessFlags := 9, nameIndex := 26, descriptorIndex := 70, attributes := #[] }] 49 2 #[] #[])
  fields := #[]
  methods := #[k9m0, k9m1, k9m2]
  instanceTypes := #[]
  staticTypes := #[]
  resolved := Array.replicate 184 none
  statics := none }

def pool10 : Array CpInfo := pool [(4, .class_ 6), (1, u "java/lang/Object"), (0, u "<init>"), (0, u "()V"), (5, .class_ 16), (1, u "java/lang/StringLatin1"), (28, .class_ 47), (1, u "jdk/internal/util/ArraysSupport"), (9, u "([B)I"), (26, .methodref 45 85), (0, .nameAndType 86 87), (0, u "vectorizedHashCode"), (0, u "(Ljava/lang/Object;IIII)I"), (33, u "$assertionsDisabled"), (0, u "Z"), (98, .class_ 223), (1, u "java/lang/StringLatin1$LinesSpliterator"), (57, u "equals"), (0, u "([B[B)Z"), (15, u "hashCode"), (91, .class_ 391), (0, u "java/lang/StringLatin1$CharsSpliterator")] 3

def k10m0 : Method := { name := "<init>", desc := "()V", sig := { parameters := [], returnType := none }, accessFlags := 0, code := none }
def k10c1 : Code := { maxStack := 3, maxLocals := 3, code := jdk_43_method_13_code, exceptionTable := #[], attributes := #[] }
def k10m1 : Method := { name := "equals", desc := "([B[B)Z", sig := { parameters := [(.array .byte), (.array .byte)], returnType := some .boolean }, accessFlags := 9, code := some k10c1 }
def k10c2 : Code := { maxStack := 5, maxLocals := 1, code := jdk_43_method_21_code, exceptionTable := #[], attributes := #[] }
def k10m2 : Method := { name := "hashCode", desc := "([B)I", sig := { parameters := [(.array .byte)], returnType := some .int }, accessFlags := 9, code := some k10c2 }
/-- java/lang/StringLatin1 -/
def k10 : Class := { plain "java/lang/StringLatin1" (some 0) with
  accessFlags := 48
  interfaces := #[]
  cf := some (fileOf pool10 14 #[.nestMembers #[390, 221]] #[{ accessFlags := 0, nameIndex := 7, descriptorIndex := 8, attributes := #[] }, { accessFlags := 9, nameIndex := 281, descriptorIndex := 282, attributes := #[] }, { accessFlags := 9, nameIndex := 298, descriptorIndex := 57, attributes := #[] }] 48 4 #[] #[{ accessFlags := 4120, nameIndex := 121, descriptorIndex := 122, attributes := #[] }])
  fields := #[{ name := "$assertionsDisabled", type := .boolean, accessFlags := 4120, slot := 0, constantValue := 0 }]
  methods := #[k10m0, k10m1, k10m2]
  instanceTypes := #[]
  staticTypes := #[.boolean]
  resolved := Array.replicate 395 none
  statics := none }

def pool11 : Array CpInfo := pool [(6, .class_ 8), (1, u "java/lang/Object"), (0, u "<init>"), (0, u "()V"), (1, .class_ 14), (1, u "java/lang/StringUTF16"), (31, u "$assertionsDisabled"), (0, u "Z"), (13, u "HI_BYTE_SHIFT"), (0, u "I"), (2, u "LO_BYTE_SHIFT"), (49, .methodref 12 116), (0, .nameAndType 117 118), (0, u "compress"), (0, u "([CI[BII)I"), (3, u "([CII)[B"), (138, u "coderFromArrayLen"), (0, u "([BI)B"), (106, .class_ 371), (1, u "java/lang/StringUTF16$LinesSpliterator"), (58, u "MAX_LENGTH"), (196, .class_ 628), (0, u "java/lang/StringUTF16$CodePointsSpliterator"), (0, .class_ 630), (0, u "java/lang/StringUTF16$CharsSpliterator")] 4

def k11m0 : Method := { name := "<init>", desc := "()V", sig := { parameters := [], returnType := none }, accessFlags := 0, code := none }
def k11c1 : Code := { maxStack := 2, maxLocals := 2, code := jdk_52_method_15_code, exceptionTable := #[], attributes := #[] }
def k11m1 : Method := { name := "coderFromArrayLen", desc := "([BI)B", sig := { parameters := [(.array .byte), .int], returnType := some .byte }, accessFlags := 8, code := some k11c1 }
def k11c2 : Code := { maxStack := 5, maxLocals := 6, code := jdk_52_method_16_code, exceptionTable := #[], attributes := #[] }
def k11m2 : Method := { name := "compress", desc := "([CII)[B", sig := { parameters := [(.array .char), .int, .int], returnType := some (.array .byte) }, accessFlags := 9, code := some k11c2 }
def k11c3 : Code := { maxStack := 3, maxLocals := 7, code := jdk_52_method_21_code, exceptionTable := #[], attributes := #[] }
def k11m3 : Method := { name := "compress", desc := "([CI[BII)I", sig := { parameters := [(.array .char), .int, (.array .byte), .int, .int], returnType := some .int }, accessFlags := 9, code := some k11c3 }
/-- java/lang/StringUTF16 -/
def k11 : Class := { plain "java/lang/StringUTF16" (some 0) with
  accessFlags := 48
  interfaces := #[]
  cf := some (fileOf pool11 12 #[.nestMembers #[627, 629, 369]] #[{ accessFlags := 0, nameIndex := 9, descriptorIndex := 10, attributes := #[] }, { accessFlags := 8, nameIndex := 261, descriptorIndex := 262, attributes := #[] }, { accessFlags := 9, nameIndex := 117, descriptorIndex := 122, attributes := #[] }, { accessFlags := 9, nameIndex := 117, descriptorIndex := 118, attributes := #[] }] 48 6 #[] #[{ accessFlags := 26, nameIndex := 61, descriptorIndex := 62, attributes := #[] }, { accessFlags := 26, nameIndex := 65, descriptorIndex := 62, attributes := #[] }, { accessFlags := 24, nameIndex := 430, descriptorIndex := 62, attributes := #[] }, { accessFlags := 4120, nameIndex := 46, descriptorIndex := 47, attributes := #[] }])
  fields := #[{ name := "HI_BYTE_SHIFT", type := .int, accessFlags := 26, slot := 0, constantValue := 0 }, { name := "LO_BYTE_SHIFT", type := .int, accessFlags := 26, slot := 1, constantValue := 0 }, { name := "MAX_LENGTH", type := .int, accessFlags := 24, slot := 2, constantValue := 0 }, { name := "$assertionsDisabled", type := .boolean, accessFlags := 4120, slot := 3, constantValue := 0 }]
  methods := #[k11m0, k11m1, k11m2, k11m3]
  instanceTypes := #[]
  staticTypes := #[.int, .int, .int, .boolean]
  resolved := Array.replicate 635 none
  statics := none }

def pool12 : Array CpInfo := pool [(9, u "<init>"), (6, .class_ 18), (1, u "java/lang/Object"), (0, u "()V"), (1, .class_ 23), (1, u "jdk/internal/util/ArraysSupport"), (0, u "LOG2_ARRAY_LONG_INDEX_SCALE"), (0, u "I"), (2, u "U"), (0, u "Ljdk/internal/misc/Unsafe;"), (8, u "BIG_ENDIAN"), (0, u "Z"), (8, u "LOG2_BYTE_BIT_SIZE"), (4, u "LOG2_ARRAY_INT_INDEX_SCALE"), (6, .class_ 61), (0, u "[B"), (0, .methodref 21 63), (0, .nameAndType 64 65), (0, u "signedHashCode"), (0, u "(I[BII)I"), (42, u "JLA"), (0, u "Ljdk/internal/access/JavaLangAccess;"), (11, u "LOG2_ARRAY_BOOLEAN_INDEX_SCALE"), (9, u "LOG2_ARRAY_BYTE_INDEX_SCALE"), (5, u "LOG2_ARRAY_CHAR_INDEX_SCALE"), (5, u "LOG2_ARRAY_SHORT_INDEX_SCALE"), (18, u "LOG2_ARRAY_FLOAT_INDEX_SCALE"), (24, u "LOG2_ARRAY_DOUBLE_INDEX_SCALE"), (89, u "T_BOOLEAN"), (2, u "T_CHAR"), (1, u "T_FLOAT"), (1, u "T_DOUBLE"), (1, u "T_BYTE"), (1, u "T_SHORT"), (1, u "T_INT"), (1, u "T_LONG"), (1, u "SOFT_MAX_ARRAY_LENGTH"), (26, u "vectorizedHashCode"), (0, u "(Ljava/lang/Object;IIII)I")] 55

def k12m0 : Method := { name := "<init>", desc := "()V", sig := { parameters := [], returnType := none }, accessFlags := 2, code := none }
def k12c1 : Code := { maxStack := 4, maxLocals := 5, code := jdk_48_method_4_code, exceptionTable := #[], attributes := #[] }
def k12m1 : Method := { name := "vectorizedHashCode", desc := "(Ljava/lang/Object;IIII)I", sig := { parameters := [(.object "java/lang/Object"), .int, .int, .int, .int], returnType := some .int }, accessFlags := 9, code := some k12c1 }
def k12c2 : Code := { maxStack := 3, maxLocals := 6, code := jdk_48_method_5_code, exceptionTable := #[], attributes := #[] }
def k12m2 : Method := { name := "signedHashCode", desc := "(I[BII)I", sig := { parameters := [.int, (.array .byte), .int, .int], returnType := some .int }, accessFlags := 10, code := some k12c2 }
/-- jdk/internal/util/ArraysSupport -/
def k12 : Class := { plain "jdk/internal/util/ArraysSupport" (some 0) with
  accessFlags := 33
  interfaces := #[]
  cf := some (fileOf pool12 21 #[] #[{ accessFlags := 2, nameIndex := 9, descriptorIndex := 19, attributes := #[] }, { accessFlags := 9, nameIndex := 321, descriptorIndex := 322, attributes := #[] }, { accessFlags := 10, nameIndex := 64, descriptorIndex := 65, attributes := #[] }] 33 16 #[] #[{ accessFlags := 24, nameIndex := 28, descriptorIndex := 29, attributes := #[] }, { accessFlags := 26, nameIndex := 38, descriptorIndex := 39, attributes := #[] }, { accessFlags := 25, nameIndex := 121, descriptorIndex := 25, attributes := #[] }, { accessFlags := 25, nameIndex := 131, descriptorIndex := 25, attributes := #[] }, { accessFlags := 25, nameIndex := 137, descriptorIndex := 25, attributes := #[] }, { accessFlags := 25, nameIndex := 143, descriptorIndex := 25, attributes := #[] }, { accessFlags := 25, nameIndex := 53, descriptorIndex := 25, attributes := #[] }, { accessFlags := 25, nameIndex := 24, descriptorIndex := 25, attributes := #[] }, { accessFlags := 25, nameIndex := 162, descriptorIndex := 25, attributes := #[] }, { accessFlags := 25, nameIndex := 187, descriptorIndex := 25, attributes := #[] }, { accessFlags := 26, nameIndex := 48, descriptorIndex := 25, attributes := #[] }, { accessFlags := 25, nameIndex := 277, descriptorIndex := 25, attributes := #[] }, { accessFlags := 25, nameIndex := 280, descriptorIndex := 25, attributes := #[] }, { accessFlags := 25, nameIndex := 282, descriptorIndex := 25, attributes := #[] }, { accessFlags := 25, nameIndex := 284, descriptorIndex := 25, attributes := #[] }, { accessFlags := 25, nameIndex := 286, descriptorIndex := 25, attributes := #[] }, { accessFlags := 25, nameIndex := 288, descriptorIndex := 25, attributes := #[] }, { accessFlags := 25, nameIndex := 290, descriptorIndex := 25, attributes := #[] }, { accessFlags := 25, nameIndex := 292, descriptorIndex := 25, attributes := #[] }, { accessFlags := 26, nameIndex := 108, descriptorIndex := 109, attributes := #[] }, { accessFlags := 25, nameIndex := 294, descriptorIndex := 25, attributes := #[] }])
  fields := #[{ name := "U", type := (.object "jdk/internal/misc/Unsafe"), accessFlags := 24, slot := 0, constantValue := 0 }, { name := "BIG_ENDIAN", type := .boolean, accessFlags := 26, slot := 1, constantValue := 0 }, { name := "LOG2_ARRAY_BOOLEAN_INDEX_SCALE", type := .int, accessFlags := 25, slot := 2, constantValue := 0 }, { name := "LOG2_ARRAY_BYTE_INDEX_SCALE", type := .int, accessFlags := 25, slot := 3, constantValue := 0 }, { name := "LOG2_ARRAY_CHAR_INDEX_SCALE", type := .int, accessFlags := 25, slot := 4, constantValue := 0 }, { name := "LOG2_ARRAY_SHORT_INDEX_SCALE", type := .int, accessFlags := 25, slot := 5, constantValue := 0 }, { name := "LOG2_ARRAY_INT_INDEX_SCALE", type := .int, accessFlags := 25, slot := 6, constantValue := 0 }, { name := "LOG2_ARRAY_LONG_INDEX_SCALE", type := .int, accessFlags := 25, slot := 7, constantValue := 0 }, { name := "LOG2_ARRAY_FLOAT_INDEX_SCALE", type := .int, accessFlags := 25, slot := 8, constantValue := 0 }, { name := "LOG2_ARRAY_DOUBLE_INDEX_SCALE", type := .int, accessFlags := 25, slot := 9, constantValue := 0 }, { name := "LOG2_BYTE_BIT_SIZE", type := .int, accessFlags := 26, slot := 10, constantValue := 0 }, { name := "T_BOOLEAN", type := .int, accessFlags := 25, slot := 11, constantValue := 0 }, { name := "T_CHAR", type := .int, accessFlags := 25, slot := 12, constantValue := 0 }, { name := "T_FLOAT", type := .int, accessFlags := 25, slot := 13, constantValue := 0 }, { name := "T_DOUBLE", type := .int, accessFlags := 25, slot := 14, constantValue := 0 }, { name := "T_BYTE", type := .int, accessFlags := 25, slot := 15, constantValue := 0 }, { name := "T_SHORT", type := .int, accessFlags := 25, slot := 16, constantValue := 0 }, { name := "T_INT", type := .int, accessFlags := 25, slot := 17, constantValue := 0 }, { name := "T_LONG", type := .int, accessFlags := 25, slot := 18, constantValue := 0 }, { name := "JLA", type := (.object "jdk/internal/access/JavaLangAccess"), accessFlags := 26, slot := 19, constantValue := 0 }, { name := "SOFT_MAX_ARRAY_LENGTH", type := .int, accessFlags := 25, slot := 20, constantValue := 0 }]
  methods := #[k12m0, k12m1, k12m2]
  instanceTypes := #[]
  staticTypes := #[(.object "jdk/internal/misc/Unsafe"), .boolean, .int, .int, .int, .int, .int, .int, .int, .int, .int, .int, .int, .int, .int, .int, .int, .int, .int, (.object "jdk/internal/access/JavaLangAccess"), .int]
  resolved := Array.replicate 378 none
  statics := none }

def pool13 : Array CpInfo := pool [(2, .class_ 4), (1, u "java/lang/Object"), (0, u "<init>"), (0, u "()V"), (17, .class_ 26), (1, u "jdk/internal/util/Preconditions"), (28, .class_ 56), (0, u "jdk/internal/util/Preconditions$4"), (57, .class_ 115), (0, u "jdk/internal/util/Preconditions$1"), (7, u "SIOOBE_FORMATTER"), (0, u "Ljava/util/function/BiFunction;"), (0, .class_ 126), (0, u "jdk/internal/util/Preconditions$2"), (3, u "AIOOBE_FORMATTER"), (0, .class_ 132), (0, u "jdk/internal/util/Preconditions$3"), (3, u "IOOBE_FORMATTER")] 57

def k13m0 : Method := { name := "<init>", desc := "()V", sig := { parameters := [], returnType := none }, accessFlags := 1, code := none }
/-- jdk/internal/util/Preconditions -/
def k13 : Class := { plain "jdk/internal/util/Preconditions" (some 0) with
  accessFlags := 33
  interfaces := #[]
  cf := some (fileOf pool13 24 #[.nestMembers #[55, 131, 125, 114]] #[{ accessFlags := 1, nameIndex := 5, descriptorIndex := 6, attributes := #[] }] 33 2 #[] #[{ accessFlags := 25, nameIndex := 123, descriptorIndex := 124, attributes := #[] }, { accessFlags := 25, nameIndex := 130, descriptorIndex := 124, attributes := #[] }, { accessFlags := 25, nameIndex := 136, descriptorIndex := 124, attributes := #[] }])
  fields := #[{ name := "SIOOBE_FORMATTER", type := (.object "java/util/function/BiFunction"), accessFlags := 25, slot := 0, constantValue := 0 }, { name := "AIOOBE_FORMATTER", type := (.object "java/util/function/BiFunction"), accessFlags := 25, slot := 1, constantValue := 0 }, { name := "IOOBE_FORMATTER", type := (.object "java/util/function/BiFunction"), accessFlags := 25, slot := 2, constantValue := 0 }]
  methods := #[k13m0]
  instanceTypes := #[]
  staticTypes := #[(.object "java/util/function/BiFunction"), (.object "java/util/function/BiFunction"), (.object "java/util/function/BiFunction")]
  resolved := Array.replicate 194 none
  statics := some 2 }

def pool14 : Array CpInfo := pool [(1, u "java/lang/Cloneable"), (0, .class_ 1), (0, u "java/lang/Object"), (0, .class_ 3)] 3

/-- java/lang/Cloneable -/
def k14 : Class := { plain "java/lang/Cloneable" (some 0) with
  accessFlags := 1537
  interfaces := #[]
  cf := some (fileOf pool14 2 #[] #[] 1537 4 #[] #[])
  fields := #[]
  methods := #[]
  instanceTypes := #[]
  staticTypes := #[]
  resolved := Array.replicate 8 none
  statics := none }

/-- the primitive byte -/
def k15 : Class := { plain "byte" none with kind := .primitive 'B', accessFlags := 0x411 }
/-- [B -/
def k16 : Class := { plain "[B" (some 0) with kind := .array 15 .byte, interfaces := #[14, 3], accessFlags := 1041 }

/-- the primitive char -/
def k17 : Class := { plain "char" none with kind := .primitive 'C', accessFlags := 0x411 }
/-- [C -/
def k18 : Class := { plain "[C" (some 0) with kind := .array 17 .char, interfaces := #[14, 3], accessFlags := 1041 }

/-- the primitive int -/
def k19 : Class := { plain "int" none with kind := .primitive 'I', accessFlags := 0x411 }
/-- [I -/
def k20 : Class := { plain "[I" (some 0) with kind := .array 19 .int, interfaces := #[14, 3], accessFlags := 1041 }

def heap : Heap := #[{ cls := 2, slots := #[.ref 3], vm := .statics 2 },
  { cls := 8, slots := #[.long 0, .int 1, .null, .int 0, .null, .int 0, .int 0], vm := .statics 8 },
  { cls := 13, slots := #[.null, .null, .null], vm := .statics 13 },
  { cls := 2, slots := #[.null, .null, .int 0], vm := .none }]
def classes : Array Class := #[k0, k1, k2, k3, k4, k5, k6, k7, k8, k9, k10, k11, k12, k13, k14, k15, k16, k17, k18, k19, k20]
def interned : List (Array UInt16 × Addr) := []
def slotsUsed : Nat := 14
def theMethod : MethodId := ⟨1, 3⟩
def args0 : Array Value := #[.int 5, .int 9, .int 3, .int 7, .int 1, .int 5]
def aboutOver (below : List Frame) : State where
  vm := { classes := classes, interned := interned.toArray }
  heap := heap
  slotsUsed := slotsUsed
  threads := #[{ frames := .invoking theMethod args0 :: below }]
def below0 : List Frame := [.native { method := ⟨0, 0⟩, args := #[] }]
def about1 : State := aboutOver below0
def p0 : Program := .bare "" "" ""
def e0 : Env := launch0.env 0 0 0
theorem w_frames : about1.frames = Frame.invoking theMethod args0 :: below0 := rfl
set_option maxRecDepth 65536 in
theorem w_args : argsFit about1.vm theMethod args0 = true := by decide +kernel
set_option maxRecDepth 65536 in
theorem w_heap : heapFits about1 = true := by decide +kernel
set_option maxRecDepth 65536 in
theorem w_runnable : about1.curStatus? = some .runnable := by decide +kernel
set_option maxRecDepth 65536 in
theorem w_alone : about1.alone = true := by decide +kernel
set_option maxRecDepth 65536 in
theorem w_named : about1.methodNamed? x = some theMethod := by decide +kernel
set_option maxRecDepth 65536 in
theorem w_hears : about1.hears theMethod below0 = true := by decide +kernel
set_option maxRecDepth 65536 in
theorem w_ripe : about1.ripe theMethod args0 below0 = true := by decide +kernel
theorem w_running : about1.status = .running := rfl
set_option maxRecDepth 65536 in
theorem w_room : about1.hasRoom e0.platform room_1 = true :=
  launch0.hasRoom_least _ room_1 (by decide +kernel) (by decide +kernel) (by decide +kernel) (by decide +kernel) (by decide +kernel) (by decide +kernel)
theorem allAtoms_all (ts : List Jvm.Cond) (a : Array Jvm.Value) (st : Jvm.State) : (allAtoms ts).before a st = ts.all (fun c => c.before a st) := by
  induction ts with
  | nil => rfl
  | cons c t ih =>
    show (Jvm.Cond.and c (allAtoms t)).before a st = _
    rw [Jvm.Cond.before_and, ih, List.all_cons]
def words1 : List Jvm.Cond := Jvm.Cond.code x code maxLocals ret :: tables_1
/-- a 'code' word, met by the world's own term for the bytes: nothing is compared byte by byte -/
theorem code_word {y : MethodName} {bytes : ByteArray} {mx : Nat} {rt : Option FieldType} {a : Array Value} {s : State} {m : MethodId} {meth : Method} {c : Code} (h1 : s.methodNamed? y = some m) (h2 : s.vm.method? m = some meth) (h3 : meth.code = some c) (h4 : c.code = bytes)
    (h5 : (c.maxLocals == mx && c.exceptionTable.isEmpty && decide (c.maxStack ≤ mostOperands) && decide (meth.sig.returnType = rt) && !meth.locks && decide (parseMethodDescriptor y.desc = some meth.sig)) = true) : (Jvm.Cond.code y bytes mx rt).before a s = true := by
  simp only [Bool.and_eq_true, beq_iff_eq, Bool.not_eq_true', decide_eq_true_eq] at h5
  obtain ⟨⟨⟨⟨⟨g1, g2⟩, g3⟩, g4⟩, g5⟩, g6⟩ := h5
  simp [Cond.before, Cond.holds, Cond.value, h1, h2, h3, h4, g1, g2, g3, g4, g5, g6]
def isCode : Jvm.Cond → Bool
  | .code _ _ _ _ => true
  | _ => false
theorem all_split {L : List Jvm.Cond} {P : Jvm.Cond → Bool} (h1 : L.all (fun c => isCode c || P c) = true) (h2 : ∀ c ∈ L.filter isCode, P c = true) : L.all P = true := by
  refine List.all_eq_true.mpr fun c hc => ?_
  have h := List.all_eq_true.mp h1 c hc
  rcases Bool.eq_false_or_eq_true (isCode c) with hi | hi
  · exact h2 c (List.mem_filter.mpr ⟨hc, hi⟩)
  · simpa [hi] using h
set_option maxRecDepth 65536 in
theorem w_c0 : (Jvm.Cond.code x code maxLocals ret).before args0 about1 = true := code_word (m := ⟨1, 3⟩) (meth := k1m3) (c := k1c3) (by decide +kernel) rfl rfl rfl (by decide +kernel)
set_option maxRecDepth 65536 in
theorem w_c1 : (Jvm.Cond.code ({ cls := "com/example/pactum/pactum/model/CredentialsEqualsPinLaw", name := "mk", desc := "(I)Ljava/lang/String;" } : Jvm.MethodName) method_2_code (3 : Nat) (Option.some (Jvm.ClassFile.FieldType.object "java/lang/String"))).before args0 about1 = true := code_word (m := ⟨1, 1⟩) (meth := k1m1) (c := k1c1) (by decide +kernel) rfl rfl rfl (by decide +kernel)
set_option maxRecDepth 65536 in
theorem w_c2 : (Jvm.Cond.code ({ cls := "java/lang/String", name := "<init>", desc := "([C)V" } : Jvm.MethodName) jdk_42_method_3_code (2 : Nat) (Option.none : Option Jvm.ClassFile.FieldType)).before args0 about1 = true := code_word (m := ⟨8, 1⟩) (meth := k8m1) (c := k8c1) (by decide +kernel) rfl rfl rfl (by decide +kernel)
set_option maxRecDepth 65536 in
theorem w_c3 : (Jvm.Cond.code ({ cls := "java/lang/String", name := "<init>", desc := "([CIILjava/lang/Void;)V" } : Jvm.MethodName) jdk_42_method_149_code (6 : Nat) (Option.none : Option Jvm.ClassFile.FieldType)).before args0 about1 = true := code_word (m := ⟨8, 4⟩) (meth := k8m4) (c := k8c4) (by decide +kernel) rfl rfl rfl (by decide +kernel)
set_option maxRecDepth 65536 in
theorem w_c4 : (Jvm.Cond.code ({ cls := "java/lang/Object", name := "<init>", desc := "()V" } : Jvm.MethodName) object_method_1_code (1 : Nat) (Option.none : Option Jvm.ClassFile.FieldType)).before args0 about1 = true := code_word (m := ⟨0, 0⟩) (meth := k0m0) (c := k0c0) (by decide +kernel) rfl rfl rfl (by decide +kernel)
set_option maxRecDepth 65536 in
theorem w_c5 : (Jvm.Cond.code ({ cls := "com/example/pactum/pactum/model/Credentials", name := "<init>", desc := "(Ljava/lang/String;Ljava/lang/String;)V" } : Jvm.MethodName) prog_6_method_1_code (3 : Nat) (Option.none : Option Jvm.ClassFile.FieldType)).before args0 about1 = true := code_word (m := ⟨2, 0⟩) (meth := k2m0) (c := k2c0) (by decide +kernel) rfl rfl rfl (by decide +kernel)
set_option maxRecDepth 65536 in
theorem w_c6 : (Jvm.Cond.code ({ cls := "java/util/Objects", name := "hashCode", desc := "(Ljava/lang/Object;)I" } : Jvm.MethodName) jdk_31_method_4_code (1 : Nat) (Option.some Jvm.ClassFile.FieldType.int)).before args0 about1 = true := code_word (m := ⟨9, 2⟩) (meth := k9m2) (c := k9c2) (by decide +kernel) rfl rfl rfl (by decide +kernel)
set_option maxRecDepth 65536 in
theorem w_c7 : (Jvm.Cond.code ({ cls := "java/lang/String", name := "hashCode", desc := "()I" } : Jvm.MethodName) jdk_42_method_78_code (2 : Nat) (Option.some Jvm.ClassFile.FieldType.int)).before args0 about1 = true := code_word (m := ⟨8, 3⟩) (meth := k8m3) (c := k8c3) (by decide +kernel) rfl rfl rfl (by decide +kernel)
set_option maxRecDepth 65536 in
theorem w_c8 : (Jvm.Cond.code ({ cls := "java/lang/String", name := "isLatin1", desc := "()Z" } : Jvm.MethodName) jdk_42_method_154_code (1 : Nat) (Option.some Jvm.ClassFile.FieldType.boolean)).before args0 about1 = true := code_word (m := ⟨8, 5⟩) (meth := k8m5) (c := k8c5) (by decide +kernel) rfl rfl rfl (by decide +kernel)
set_option maxRecDepth 65536 in
theorem w_c9 : (Jvm.Cond.code ({ cls := "java/lang/StringLatin1", name := "hashCode", desc := "([B)I" } : Jvm.MethodName) jdk_43_method_21_code (1 : Nat) (Option.some Jvm.ClassFile.FieldType.int)).before args0 about1 = true := code_word (m := ⟨10, 2⟩) (meth := k10m2) (c := k10c2) (by decide +kernel) rfl rfl rfl (by decide +kernel)
set_option maxRecDepth 65536 in
theorem w_c10 : (Jvm.Cond.code ({ cls := "com/example/pactum/pactum/model/Credentials", name := "equals", desc := "(Ljava/lang/Object;)Z" } : Jvm.MethodName) prog_6_method_4_code (3 : Nat) (Option.some Jvm.ClassFile.FieldType.boolean)).before args0 about1 = true := code_word (m := ⟨2, 1⟩) (meth := k2m1) (c := k2c1) (by decide +kernel) rfl rfl rfl (by decide +kernel)
set_option maxRecDepth 65536 in
theorem w_c11 : (Jvm.Cond.code ({ cls := "java/lang/StringUTF16", name := "compress", desc := "([CII)[B" } : Jvm.MethodName) jdk_52_method_16_code (6 : Nat) (Option.some (Jvm.ClassFile.FieldType.array Jvm.ClassFile.FieldType.byte))).before args0 about1 = true := code_word (m := ⟨11, 2⟩) (meth := k11m2) (c := k11c2) (by decide +kernel) rfl rfl rfl (by decide +kernel)
set_option maxRecDepth 65536 in
theorem w_c12 : (Jvm.Cond.code ({ cls := "java/lang/StringUTF16", name := "compress", desc := "([CI[BII)I" } : Jvm.MethodName) jdk_52_method_21_code (7 : Nat) (Option.some Jvm.ClassFile.FieldType.int)).before args0 about1 = true := code_word (m := ⟨11, 3⟩) (meth := k11m3) (c := k11c3) (by decide +kernel) rfl rfl rfl (by decide +kernel)
set_option maxRecDepth 65536 in
theorem w_c13 : (Jvm.Cond.code ({ cls := "java/lang/StringUTF16", name := "coderFromArrayLen", desc := "([BI)B" } : Jvm.MethodName) jdk_52_method_15_code (2 : Nat) (Option.some Jvm.ClassFile.FieldType.byte)).before args0 about1 = true := code_word (m := ⟨11, 1⟩) (meth := k11m1) (c := k11c1) (by decide +kernel) rfl rfl rfl (by decide +kernel)
set_option maxRecDepth 65536 in
theorem w_c14 : (Jvm.Cond.code ({ cls := "jdk/internal/util/ArraysSupport", name := "vectorizedHashCode", desc := "(Ljava/lang/Object;IIII)I" } : Jvm.MethodName) jdk_48_method_4_code (5 : Nat) (Option.some Jvm.ClassFile.FieldType.int)).before args0 about1 = true := code_word (m := ⟨12, 1⟩) (meth := k12m1) (c := k12c1) (by decide +kernel) rfl rfl rfl (by decide +kernel)
set_option maxRecDepth 65536 in
theorem w_c15 : (Jvm.Cond.code ({ cls := "jdk/internal/util/ArraysSupport", name := "signedHashCode", desc := "(I[BII)I" } : Jvm.MethodName) jdk_48_method_5_code (6 : Nat) (Option.some Jvm.ClassFile.FieldType.int)).before args0 about1 = true := code_word (m := ⟨12, 2⟩) (meth := k12m2) (c := k12c2) (by decide +kernel) rfl rfl rfl (by decide +kernel)
set_option maxRecDepth 65536 in
theorem w_c16 : (Jvm.Cond.code ({ cls := "com/example/pactum/pactum/model/CredentialsEqualsPinLaw", name := "sameStr", desc := "(II)Z" } : Jvm.MethodName) method_3_code (6 : Nat) (Option.some Jvm.ClassFile.FieldType.boolean)).before args0 about1 = true := code_word (m := ⟨1, 2⟩) (meth := k1m2) (c := k1c2) (by decide +kernel) rfl rfl rfl (by decide +kernel)
set_option maxRecDepth 65536 in
theorem w_c17 : (Jvm.Cond.code ({ cls := "java/util/Objects", name := "equals", desc := "(Ljava/lang/Object;Ljava/lang/Object;)Z" } : Jvm.MethodName) jdk_31_method_2_code (2 : Nat) (Option.some Jvm.ClassFile.FieldType.boolean)).before args0 about1 = true := code_word (m := ⟨9, 1⟩) (meth := k9m1) (c := k9c1) (by decide +kernel) rfl rfl rfl (by decide +kernel)
set_option maxRecDepth 65536 in
theorem w_c18 : (Jvm.Cond.code ({ cls := "java/lang/String", name := "equals", desc := "(Ljava/lang/Object;)Z" } : Jvm.MethodName) jdk_42_method_66_code (3 : Nat) (Option.some Jvm.ClassFile.FieldType.boolean)).before args0 about1 = true := code_word (m := ⟨8, 2⟩) (meth := k8m2) (c := k8c2) (by decide +kernel) rfl rfl rfl (by decide +kernel)
set_option maxRecDepth 65536 in
theorem w_c19 : (Jvm.Cond.code ({ cls := "java/lang/StringLatin1", name := "equals", desc := "([B[B)Z" } : Jvm.MethodName) jdk_43_method_13_code (3 : Nat) (Option.some Jvm.ClassFile.FieldType.boolean)).before args0 about1 = true := code_word (m := ⟨10, 1⟩) (meth := k10m1) (c := k10c1) (by decide +kernel) rfl rfl rfl (by decide +kernel)
def codes1 : List Jvm.Cond := [Jvm.Cond.code x code maxLocals ret, Jvm.Cond.code ({ cls := "com/example/pactum/pactum/model/CredentialsEqualsPinLaw", name := "mk", desc := "(I)Ljava/lang/String;" } : Jvm.MethodName) method_2_code (3 : Nat) (Option.some (Jvm.ClassFile.FieldType.object "java/lang/String")), Jvm.Cond.code ({ cls := "java/lang/String", name := "<init>", desc := "([C)V" } : Jvm.MethodName) jdk_42_method_3_code (2 : Nat) (Option.none : Option Jvm.ClassFile.FieldType), Jvm.Cond.code ({ cls := "java/lang/String", name := "<init>", desc := "([CIILjava/lang/Void;)V" } : Jvm.MethodName) jdk_42_method_149_code (6 : Nat) (Option.none : Option Jvm.ClassFile.FieldType), Jvm.Cond.code ({ cls := "java/lang/Object", name := "<init>", desc := "()V" } : Jvm.MethodName) object_method_1_code (1 : Nat) (Option.none : Option Jvm.ClassFile.FieldType), Jvm.Cond.code ({ cls := "com/example/pactum/pactum/model/Credentials", name := "<init>", desc := "(Ljava/lang/String;Ljava/lang/String;)V" } : Jvm.MethodName) prog_6_method_1_code (3 : Nat) (Option.none : Option Jvm.ClassFile.FieldType), Jvm.Cond.code ({ cls := "java/util/Objects", name := "hashCode", desc := "(Ljava/lang/Object;)I" } : Jvm.MethodName) jdk_31_method_4_code (1 : Nat) (Option.some Jvm.ClassFile.FieldType.int), Jvm.Cond.code ({ cls := "java/lang/String", name := "hashCode", desc := "()I" } : Jvm.MethodName) jdk_42_method_78_code (2 : Nat) (Option.some Jvm.ClassFile.FieldType.int), Jvm.Cond.code ({ cls := "java/lang/String", name := "isLatin1", desc := "()Z" } : Jvm.MethodName) jdk_42_method_154_code (1 : Nat) (Option.some Jvm.ClassFile.FieldType.boolean), Jvm.Cond.code ({ cls := "java/lang/StringLatin1", name := "hashCode", desc := "([B)I" } : Jvm.MethodName) jdk_43_method_21_code (1 : Nat) (Option.some Jvm.ClassFile.FieldType.int), Jvm.Cond.code ({ cls := "com/example/pactum/pactum/model/Credentials", name := "equals", desc := "(Ljava/lang/Object;)Z" } : Jvm.MethodName) prog_6_method_4_code (3 : Nat) (Option.some Jvm.ClassFile.FieldType.boolean), Jvm.Cond.code ({ cls := "java/lang/StringUTF16", name := "compress", desc := "([CII)[B" } : Jvm.MethodName) jdk_52_method_16_code (6 : Nat) (Option.some (Jvm.ClassFile.FieldType.array Jvm.ClassFile.FieldType.byte)), Jvm.Cond.code ({ cls := "java/lang/StringUTF16", name := "compress", desc := "([CI[BII)I" } : Jvm.MethodName) jdk_52_method_21_code (7 : Nat) (Option.some Jvm.ClassFile.FieldType.int), Jvm.Cond.code ({ cls := "java/lang/StringUTF16", name := "coderFromArrayLen", desc := "([BI)B" } : Jvm.MethodName) jdk_52_method_15_code (2 : Nat) (Option.some Jvm.ClassFile.FieldType.byte), Jvm.Cond.code ({ cls := "jdk/internal/util/ArraysSupport", name := "vectorizedHashCode", desc := "(Ljava/lang/Object;IIII)I" } : Jvm.MethodName) jdk_48_method_4_code (5 : Nat) (Option.some Jvm.ClassFile.FieldType.int), Jvm.Cond.code ({ cls := "jdk/internal/util/ArraysSupport", name := "signedHashCode", desc := "(I[BII)I" } : Jvm.MethodName) jdk_48_method_5_code (6 : Nat) (Option.some Jvm.ClassFile.FieldType.int), Jvm.Cond.code ({ cls := "com/example/pactum/pactum/model/CredentialsEqualsPinLaw", name := "sameStr", desc := "(II)Z" } : Jvm.MethodName) method_3_code (6 : Nat) (Option.some Jvm.ClassFile.FieldType.boolean), Jvm.Cond.code ({ cls := "java/util/Objects", name := "equals", desc := "(Ljava/lang/Object;Ljava/lang/Object;)Z" } : Jvm.MethodName) jdk_31_method_2_code (2 : Nat) (Option.some Jvm.ClassFile.FieldType.boolean), Jvm.Cond.code ({ cls := "java/lang/String", name := "equals", desc := "(Ljava/lang/Object;)Z" } : Jvm.MethodName) jdk_42_method_66_code (3 : Nat) (Option.some Jvm.ClassFile.FieldType.boolean), Jvm.Cond.code ({ cls := "java/lang/StringLatin1", name := "equals", desc := "([B[B)Z" } : Jvm.MethodName) jdk_43_method_13_code (3 : Nat) (Option.some Jvm.ClassFile.FieldType.boolean)]
set_option maxRecDepth 65536 in
theorem codes_eq : words1.filter isCode = codes1 := rfl
theorem w_codes : ∀ c ∈ words1.filter isCode, c.before args0 about1 = true := by
  rw [codes_eq]
  intro c hc
  simp only [codes1, List.mem_cons, List.not_mem_nil, or_false] at hc
  rcases hc with rfl | rfl | rfl | rfl | rfl | rfl | rfl | rfl | rfl | rfl | rfl | rfl | rfl | rfl | rfl | rfl | rfl | rfl | rfl | rfl
  · exact w_c0
  · exact w_c1
  · exact w_c2
  · exact w_c3
  · exact w_c4
  · exact w_c5
  · exact w_c6
  · exact w_c7
  · exact w_c8
  · exact w_c9
  · exact w_c10
  · exact w_c11
  · exact w_c12
  · exact w_c13
  · exact w_c14
  · exact w_c15
  · exact w_c16
  · exact w_c17
  · exact w_c18
  · exact w_c19
set_option maxRecDepth 65536 in
theorem w_t1 : (words1.take 24).all (fun c => isCode c || c.before args0 about1) = true := by decide +kernel
set_option maxRecDepth 65536 in
theorem w_t2 : ((words1.drop 24).take 24).all (fun c => isCode c || c.before args0 about1) = true := by decide +kernel
set_option maxRecDepth 65536 in
theorem w_t3 : (((words1.drop 24).drop 24).take 24).all (fun c => isCode c || c.before args0 about1) = true := by decide +kernel
set_option maxRecDepth 65536 in
theorem w_t4 : ((((words1.drop 24).drop 24).drop 24).take 24).all (fun c => isCode c || c.before args0 about1) = true := by decide +kernel
set_option maxRecDepth 65536 in
theorem w_t5 : ((((words1.drop 24).drop 24).drop 24).drop 24).all (fun c => isCode c || c.before args0 about1) = true := by decide +kernel
theorem w_tables : (allAtoms (Jvm.Cond.code x code maxLocals ret :: tables_1)).before args0 about1 = true := by
  rw [allAtoms_all]
  show words1.all (fun c => c.before args0 about1) = true
  refine all_split ?_ w_codes
  rw [← List.take_append_drop 24 words1, List.all_append, w_t1, ← List.take_append_drop 24 (words1.drop 24), List.all_append, w_t2, ← List.take_append_drop 24 ((words1.drop 24).drop 24), List.all_append, w_t3, ← List.take_append_drop 24 (((words1.drop 24).drop 24).drop 24), List.all_append, w_t4, w_t5]
  rfl
set_option maxRecDepth 65536 in
theorem w_rest : rest_1_c.before args0 about1 = true := by decide +kernel
set_option maxRecDepth 65536 in
theorem w_case : (Jvm.Cond.and given_1 narrow_1).before args0 about1 = true := by decide +kernel
set_option maxRecDepth 65536 in
theorem w_consts : constsHeld consts_1 about1 := Jvm.Lit.constsHeldB_iff.mp (by decide +kernel)
theorem w_applies : (headSpec (Jvm.Cond.code x code maxLocals ret :: tables_1) room_1).applies x e0.platform about1 = true :=
  (Spec.applies_iff w_frames).mpr ⟨w_running, w_runnable, w_alone, w_named, w_hears, w_ripe, w_room, w_tables⟩
theorem atStart : AtStart classFile x code maxLocals ret World_1 tables_1 room_1 Calls_1 rest_1 Pre_1 launch0 p0 e0 about1 theMethod args0 below0 :=
  ⟨lists_1, trivial, launch0.admits_env _ _ _, launch0.least_env, fairChoices_fair.cas, fairChoices_fair.clock, w_frames, w_args, w_heap, w_applies, ⟨w_consts, trivial⟩, w_rest, w_case⟩
end start1
theorem witness_1 : WitnessClaimed_1 := ⟨start1.p0, start1.e0, start1.about1, start1.theMethod, start1.args0, start1.below0, start1.atStart⟩
end Jvm.Pilot.@@N@@
