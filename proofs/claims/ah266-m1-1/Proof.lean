import JvmDerived
import JvmDerived.Pilot.@@N@@Statement
import JvmDerived.Pilot.@@N@@Code
set_option linter.unusedVariables false
set_option linter.unusedSimpArgs false
/- laws to paste: Road.backV, Road.eqW, Road.codOf (cut by pick.py; bodies as the Statement names them) -/
namespace Jvm.Pilot.@@N@@
namespace StrChars
open Jvm Sem ClassFile Op Lib Jvm.Stand Jvm.Free.XT Jvm.Free.ALB Jvm.Free.JM Jvm.Free
open Jvm.Lib.Cold (StaticIs)
/-- a char array whose places are chars -/
def Ch (a : Addr) (A : Cell) (U : State) : Prop := Arr .char a A U ∧ Typed .char A
theorem Ch.mv {a : Addr} {A : Cell} {U U' : State} (h : Ch a A U) (hal : U.vm.Alike U'.vm) (hh : U'.heap = U.heap) : Ch a A U' := ⟨h.1.mv hal hh, h.2⟩
theorem Ch.keep {a : Addr} {A : Cell} {U U' : State} (h : Ch a A U) (hal : U.vm.Alike U'.vm) (hk : U'.heap[a]? = some A) : Ch a A U' := ⟨h.1.keep hal hk, h.2⟩
/-- what place i of a char[]'s cell holds -/
def cv (A : Cell) (i : Nat) : Int32 := match A.slots[i]? with | some (.int x) => x | _ => 0
theorem Ch.get {a : Addr} {A : Cell} {U : State} (h : Ch a A U) {i : Nat} (hi : i < A.slots.size) : A.slots[i]? = some (.int (cv A i)) := by
  have e := Array.getElem?_eq_getElem hi
  have f := h.2 i _ e
  unfold cv; rw [e]
  generalize A.slots[i] = v at f
  cases v <;> simp [fits] at f ⊢
/-- the byte that i2b leaves of a char -/
def lo8 (x : Int32) : Int32 := x.toInt8.toInt32
theorem fits_lo8 (y : Int32) : fits .byte (.int (lo8 y)) = true := by
  have h1 := y.toInt8.le_toInt
  have h2 := y.toInt8.toInt_lt
  simp only [lo8, fits, Bool.and_eq_true, decide_eq_true_eq, Int32.le_iff_toInt_le, Int8.toInt_toInt32, show (-128 : Int32).toInt = -128 from by decide, show (127 : Int32).toInt = 127 from by decide]
  omega
/-- A' is A but that each place j of lo .. hi - 1 holds f j -/
def Laid (A A' : Cell) (lo hi : Nat) (f : Nat → Value) : Prop := A'.cls = A.cls ∧ A'.vm = A.vm ∧ A'.slots.size = A.slots.size ∧ ∀ i, A'.slots[i]? = if lo ≤ i ∧ i < hi then some (f i) else A.slots[i]?
theorem Laid.zero (A : Cell) (lo : Nat) (f : Nat → Value) : Laid A A lo (lo + 0) f := ⟨rfl, rfl, rfl, fun i => by rw [if_neg (by omega)]⟩
theorem Laid.step {A Ak : Cell} {lo k : Nat} {f : Nat → Value} {v : Value} (h : Laid A Ak lo k f) (hlo : lo ≤ k) (hk : k < Ak.slots.size) (hv : v = f k) : Laid A (Ak.setSlot k v) lo (k + 1) f := by
  refine ⟨h.1, h.2.1, by simpa [Cell.setSlot] using h.2.2.1, fun i => ?_⟩
  by_cases e : k = i
  · subst e; rw [Cell.slots_setSlot_self v hk, if_pos (by omega), hv]
  · rw [Cell.slots_setSlot_ne v e, h.2.2.2 i]
    by_cases q : lo ≤ i ∧ i < k
    · rw [if_pos q, if_pos (by omega)]
    · rw [if_neg q, if_neg (by omega)]
def U16 : String := "java/lang/StringUTF16"
namespace Cmp5
def yN : MethodName := ⟨"java/lang/StringUTF16", "compress", "([CI[BII)I"⟩
abbrev yB : ByteArray := jdk_52_method_21_code
theorem d0 : decode yB 0 = .ok (.iconst 0, 1) := by decide +kernel
theorem d1 : decode yB 1 = .ok (.istore 5, 2) := by decide +kernel
theorem d3 : decode yB 3 = .ok (.iload 5, 2) := by decide +kernel
theorem d5 : decode yB 5 = .ok (.iload 4, 2) := by decide +kernel
theorem d7 : decode yB 7 = .ok (.if_icmp (.ge) 37, 3) := by decide +kernel
theorem d10 : decode yB 10 = .ok (.aload_n 0, 1) := by decide +kernel
theorem d11 : decode yB 11 = .ok (.iload_n 1, 1) := by decide +kernel
theorem d12 : decode yB 12 = .ok (.caload, 1) := by decide +kernel
theorem d13 : decode yB 13 = .ok (.istore 6, 2) := by decide +kernel
theorem d15 : decode yB 15 = .ok (.iload 6, 2) := by decide +kernel
theorem d17 : decode yB 17 = .ok (.sipush 255, 3) := by decide +kernel
theorem d20 : decode yB 20 = .ok (.if_icmp (.le) 6, 3) := by decide +kernel
theorem d26 : decode yB 26 = .ok (.aload_n 2, 1) := by decide +kernel
theorem d27 : decode yB 27 = .ok (.iload_n 3, 1) := by decide +kernel
theorem d28 : decode yB 28 = .ok (.iload 6, 2) := by decide +kernel
theorem d30 : decode yB 30 = .ok (.i2b, 1) := by decide +kernel
theorem d31 : decode yB 31 = .ok (.bastore, 1) := by decide +kernel
theorem d32 : decode yB 32 = .ok (.iinc 1 1, 3) := by decide +kernel
theorem d35 : decode yB 35 = .ok (.iinc 3 1, 3) := by decide +kernel
theorem d38 : decode yB 38 = .ok (.iinc 5 1, 3) := by decide +kernel
theorem d41 : decode yB 41 = .ok (.goto (-38), 3) := by decide +kernel
theorem d44 : decode yB 44 = .ok (.iload 4, 2) := by decide +kernel
theorem d46 : decode yB 46 = .ok (.ireturn, 1) := by decide +kernel
def site : List Cond := []
def tab : Cond := tabOf yN yB 7 (some .int) site
def P (b : Addr) (A : Cell) (d : Addr) (B : Cell) (o q len : Nat) (args : Array Value) (s : State) : Prop := args = #[.ref b, .int (Int32.ofNat o), .ref d, .int (Int32.ofNat q), .int (Int32.ofNat len)] ∧ Ch b A s ∧ Arr .byte d B s ∧ b ≠ d ∧ o + len ≤ A.slots.size ∧ q + len ≤ B.slots.size ∧ ∀ i, i < len → ¬ 255 < cv A (o + i)
def E (b : Addr) (A : Cell) (d : Addr) (B : Cell) (o q len : Nat) (r : Option Value) (s u : State) : Prop := r = some (.int (Int32.ofNat len)) ∧ ∃ B', Put d B' s u ∧ Laid B B' q (q + len) (fun j => Value.int (lo8 (cv A (o + (j - q)))))
/-- no char of the range above 255: len; the places written hold each char's low byte -/
theorem law (l : Launch) (b : Addr) (A : Cell) (d : Addr) (B : Cell) (o q len : Nat) : Law l yN 5 5 0 0 yB 7 (some .int) site (P b A d B o q len) (E b A d B o q len) (copyLocs d q len) 0 0 := by
  refine Law.of_walk (plainFor_of_name (by decide +kernel)) (by decide +kernel) (by decide +kernel) (by decide) (fun _ _ h => by rw [h.1]; rfl) (fun _ U U' hal hh h => ⟨h.1, h.2.1.mv hal hh, h.2.2.1.mv hal hh, h.2.2.2⟩) (fun r U U' V V' h1 hal h2 h => ⟨h.1, h.2.elim fun B' q => ⟨B', q.1.mv h1 h2, q.2⟩⟩) ?_
  intro p e s m args below meth c s₁ X0 hexec hbytes hml hret hlk hnm hown hh0 W hP
  obtain ⟨rfl, hA, hB, hne, l1, l2, hp⟩ := hP
  have c1 : Steps p.tables e below (s₁.setTop (entryFrame m #[.ref b, .int (Int32.ofNat o), .ref d, .int (Int32.ofNat q), .int (Int32.ofNat len)] 7)) (s₁.setTop (mkF m 0 #[.val (.ref b), .val (.int (Int32.ofNat o)), .val (.ref d), .val (.int (Int32.ofNat q)), .val (.int (Int32.ofNat len)), .unset, .unset] [])) := entry rfl
  have hA0 := hA.1.mv X0.warmed.alike hh0
  have hB0 := hB.mv X0.warmed.alike hh0
  have a31 := hA.1.2.2.2
  have c2 : Steps p.tables e below (s₁.setTop (entryFrame m #[.ref b, .int (Int32.ofNat o), .ref d, .int (Int32.ofNat q), .int (Int32.ofNat len)] 7)) (s₁.setTop (mkF m 3 #[.val (.ref b), .val (.int (Int32.ofNat o)), .val (.ref d), .val (.int (Int32.ofNat q)), .val (.int (Int32.ofNat len)), .val (.int 0), .unset] [])) := c1.trans (by
    refine iconstV X0.here hexec rfl 0 (hb hbytes d0) (by decide) ?_
    refine XS.istore X0.here hexec rfl (hb hbytes d1) rfl rfl ?_
    exact Steps.refl _)
  have loop : ∀ (r i : Nat), i + r = len → ∀ (z : Slot), (z = .unset ∨ ∃ w, z = .val w ∧ w.category = 1) → ∀ (Tl : State) (Bk : Cell), Stand p l e { frames := 0, locals := 0, cells := 0, slots := 0 } s m #[.ref b, .int (Int32.ofNat o), .ref d, .int (Int32.ofNat q), .int (Int32.ofNat len)] below meth c Tl ([] ++ copyLocs d q i) 0 0 → Put d Bk s₁ Tl → Laid B Bk q (q + i) (fun j => Value.int (lo8 (cv A (o + (j - q))))) →
      Steps p.tables e below (s₁.setTop (entryFrame m #[.ref b, .int (Int32.ofNat o), .ref d, .int (Int32.ofNat q), .int (Int32.ofNat len)] 7)) (Tl.setTop (mkF m 3 #[.val (.ref b), .val (.int (Int32.ofNat (o + i))), .val (.ref d), .val (.int (Int32.ofNat (q + i))), .val (.int (Int32.ofNat len)), .val (.int (Int32.ofNat i)), z] [])) → ∃ (T' : State) (B' : Cell) (z' : Slot), Stand p l e { frames := 0, locals := 0, cells := 0, slots := 0 } s m #[.ref b, .int (Int32.ofNat o), .ref d, .int (Int32.ofNat q), .int (Int32.ofNat len)] below meth c T' ([] ++ copyLocs d q len) 0 0 ∧ Put d B' s₁ T' ∧ Laid B B' q (q + len) (fun j => Value.int (lo8 (cv A (o + (j - q))))) ∧
      Steps p.tables e below (s₁.setTop (entryFrame m #[.ref b, .int (Int32.ofNat o), .ref d, .int (Int32.ofNat q), .int (Int32.ofNat len)] 7)) (T'.setTop (mkF m 3 #[.val (.ref b), .val (.int (Int32.ofNat (o + len))), .val (.ref d), .val (.int (Int32.ofNat (q + len))), .val (.int (Int32.ofNat len)), .val (.int (Int32.ofNat len)), z'] [])) := by
    intro r
    induction r with
    | zero =>
      intro i hi z hz Tl Bk Xl pl fl cl
      have hil : i = len := by omega
      rw [hil] at Xl fl cl
      exact ⟨Tl, Bk, z, Xl, pl, fl, cl⟩
    | succ r ih =>
      intro i hi z hz Tl Bk Xl pl fl cl
      have all := X0.warmed.alike.symm.trans Xl.warmed.alike
      have hAl := hA0.keep all (pl.other hne hA0.1)
      have hBk := hB0.like all pl.1 fl.1 fl.2.1 fl.2.2.1
      have hlt : q + i < Bk.slots.size := by rw [fl.2.2.1]; omega
      have c3 : Steps p.tables e below (s₁.setTop (entryFrame m #[.ref b, .int (Int32.ofNat o), .ref d, .int (Int32.ofNat q), .int (Int32.ofNat len)] 7)) (Tl.setTop (mkF m 12 #[.val (.ref b), .val (.int (Int32.ofNat (o + i))), .val (.ref d), .val (.int (Int32.ofNat (q + i))), .val (.int (Int32.ofNat len)), .val (.int (Int32.ofNat i)), z] [.int (Int32.ofNat (o + i)), .ref b])) := cl.trans (by
        refine XS.iload Xl.here hexec rfl (hb hbytes d3) rfl ?_
        refine XS.iload Xl.here hexec rfl (hb hbytes d5) rfl ?_
        refine XS.icmpNo Xl.here hexec rfl (hb hbytes d7) rfl (ii_ge_f (lt32 (by omega) (by omega))) ?_
        refine XS.aloadN Xl.here hexec rfl (hb hbytes d10) rfl rfl ?_
        refine XS.iloadN Xl.here hexec rfl (hb hbytes d11) rfl ?_
        exact Steps.refl _)
      have c4 : Steps p.tables e below (s₁.setTop (entryFrame m #[.ref b, .int (Int32.ofNat o), .ref d, .int (Int32.ofNat q), .int (Int32.ofNat len)] 7)) (Tl.setTop (mkF m 13 #[.val (.ref b), .val (.int (Int32.ofNat (o + i))), .val (.ref d), .val (.int (Int32.ofNat (q + i))), .val (.int (Int32.ofNat len)), .val (.int (Int32.ofNat i)), z] [.int (cv A (o + i))])) := c3.trans (by
        refine Xl.aget hexec hAl rfl (hA.get (i := o + i) (by omega)) rfl rfl (hb hbytes d12) ?_
        exact Steps.refl _)
      have c5 : Steps p.tables e below (s₁.setTop (entryFrame m #[.ref b, .int (Int32.ofNat o), .ref d, .int (Int32.ofNat q), .int (Int32.ofNat len)] 7)) (Tl.setTop (mkF m 15 #[.val (.ref b), .val (.int (Int32.ofNat (o + i))), .val (.ref d), .val (.int (Int32.ofNat (q + i))), .val (.int (Int32.ofNat len)), .val (.int (Int32.ofNat i)), .val (.int (cv A (o + i)))] [])) := c4.trans (by
        refine XS.istoreS Xl.here hexec rfl (hb hbytes d13) rfl rfl hz ?_
        exact Steps.refl _)
      have c6 : Steps p.tables e below (s₁.setTop (entryFrame m #[.ref b, .int (Int32.ofNat o), .ref d, .int (Int32.ofNat q), .int (Int32.ofNat len)] 7)) (Tl.setTop (mkF m 31 #[.val (.ref b), .val (.int (Int32.ofNat (o + i))), .val (.ref d), .val (.int (Int32.ofNat (q + i))), .val (.int (Int32.ofNat len)), .val (.int (Int32.ofNat i)), .val (.int (cv A (o + i)))] [.int (lo8 (cv A (o + i))), .int (Int32.ofNat (q + i)), .ref d])) := c5.trans (by
        refine XS.iload Xl.here hexec rfl (hb hbytes d15) rfl ?_
        refine sipushV Xl.here hexec rfl 255 (hb hbytes d17) (by decide) ?_
        refine XS.icmpYes Xl.here hexec rfl (pc0 := 20) rfl (hb hbytes d20) rfl (ii_le_t (hp i (by omega))) (by decide) rfl ?_
        refine XS.aloadN Xl.here hexec rfl (hb hbytes d26) rfl rfl ?_
        refine XS.iloadN Xl.here hexec rfl (hb hbytes d27) rfl ?_
        refine XS.iload Xl.here hexec rfl (hb hbytes d28) rfl ?_
        refine i2b Xl.here hexec rfl (hb hbytes d30) rfl ?_
        exact Steps.refl _)
      obtain ⟨T7, X7, p7, st7⟩ := Xl.aput hexec hBk rfl hlt rfl (fits_lo8 (cv A (o + i))) (g := (mkF m 31 #[.val (.ref b), .val (.int (Int32.ofNat (o + i))), .val (.ref d), .val (.int (Int32.ofNat (q + i))), .val (.int (Int32.ofNat len)), .val (.int (Int32.ofNat i)), .val (.int (cv A (o + i)))] [.int (lo8 (cv A (o + i))), .int (Int32.ofNat (q + i)), .ref d])) rfl (rest := []) rfl (hb hbytes d31)
      have c8 : Steps p.tables e below (s₁.setTop (entryFrame m #[.ref b, .int (Int32.ofNat o), .ref d, .int (Int32.ofNat q), .int (Int32.ofNat len)] 7)) (T7.setTop (mkF m 32 #[.val (.ref b), .val (.int (Int32.ofNat (o + i))), .val (.ref d), .val (.int (Int32.ofNat (q + i))), .val (.int (Int32.ofNat len)), .val (.int (Int32.ofNat i)), .val (.int (cv A (o + i)))] [])) := c6.trans (st7 _ (Steps.refl _))
      have c9 : Steps p.tables e below (s₁.setTop (entryFrame m #[.ref b, .int (Int32.ofNat o), .ref d, .int (Int32.ofNat q), .int (Int32.ofNat len)] 7)) (T7.setTop (mkF m 3 #[.val (.ref b), .val (.int (Int32.ofNat (o + i) + 1)), .val (.ref d), .val (.int (Int32.ofNat (q + i) + 1)), .val (.int (Int32.ofNat len)), .val (.int (Int32.ofNat i + 1)), .val (.int (cv A (o + i)))] [])) := c8.trans (by
        refine iincV X7.here hexec rfl 1 (hb hbytes d32) (by decide) rfl rfl ?_
        refine iincV X7.here hexec rfl 1 (hb hbytes d35) (by decide) rfl rfl ?_
        refine iincV X7.here hexec rfl 1 (hb hbytes d38) (by decide) rfl rfl ?_
        refine XS.goto X7.here hexec rfl (pc0 := 41) rfl (hb hbytes d41) (by decide) rfl ?_
        exact Steps.refl _)
      have c10 : Steps p.tables e below (s₁.setTop (entryFrame m #[.ref b, .int (Int32.ofNat o), .ref d, .int (Int32.ofNat q), .int (Int32.ofNat len)] 7)) (T7.setTop (mkF m 3 #[.val (.ref b), .val (.int (Int32.ofNat (o + (i + 1)))), .val (.ref d), .val (.int (Int32.ofNat (q + (i + 1)))), .val (.int (Int32.ofNat len)), .val (.int (Int32.ofNat (i + 1))), .val (.int (cv A (o + i)))] [])) := by
        have := c9
        rw [succ32, succ32, succ32] at this
        exact this
      exact ih (i + 1) (by omega) _ (Or.inr ⟨_, rfl, rfl⟩) T7 _ (by rw [copyLocs_step, ← List.append_assoc]; exact X7) (pl.trans p7) (fl.step (by omega) hlt (by simp)) c10
  obtain ⟨T9, B9, z9, X9, p9, f9, g9⟩ := loop len 0 (by omega) .unset (Or.inl rfl) s₁ B (by simpa [copyLocs] using X0) ⟨hB0.1, fun _ _ => rfl, rfl⟩ (Laid.zero _ _ _) c2
  have c11 : Steps p.tables e below (s₁.setTop (entryFrame m #[.ref b, .int (Int32.ofNat o), .ref d, .int (Int32.ofNat q), .int (Int32.ofNat len)] 7)) (T9.setTop (mkF m 46 #[.val (.ref b), .val (.int (Int32.ofNat (o + len))), .val (.ref d), .val (.int (Int32.ofNat (q + len))), .val (.int (Int32.ofNat len)), .val (.int (Int32.ofNat len)), z9] [.int (Int32.ofNat len)])) := g9.trans (by
    refine XS.iload X9.here hexec rfl (hb hbytes d3) rfl ?_
    refine XS.iload X9.here hexec rfl (hb hbytes d5) rfl ?_
    refine XS.icmpYes X9.here hexec rfl (pc0 := 7) rfl (hb hbytes d7) rfl (ii_ge_t (nlt32 (by omega) (Nat.le_refl _))) (by decide) rfl ?_
    refine XS.iload X9.here hexec rfl (hb hbytes d44) rfl ?_
    exact Steps.refl _)
  exact ⟨T9, some (.int (Int32.ofNat len)), _, _, _, X9, by simp, rfl, rfl, (fun h => by cases h), ⟨rfl, B9, p9.from hh0, f9⟩, fun fs hl => c11.trans (X9.ireturnOut hexec hret rfl (Or.inl rfl) (hb hbytes d46) hl)⟩
end Cmp5
namespace Cmp3
def yN : MethodName := ⟨"java/lang/StringUTF16", "compress", "([CII)[B"⟩
abbrev yB : ByteArray := jdk_52_method_16_code
theorem d0 : decode yB 0 = .ok (.iload_n 2, 1) := by decide +kernel
theorem d1 : decode yB 1 = .ok (.newarray .byte, 2) := by decide +kernel
theorem d3 : decode yB 3 = .ok (.astore_n 3, 1) := by decide +kernel
theorem d4 : decode yB 4 = .ok (.aload_n 0, 1) := by decide +kernel
theorem d5 : decode yB 5 = .ok (.iload_n 1, 1) := by decide +kernel
theorem d6 : decode yB 6 = .ok (.aload_n 3, 1) := by decide +kernel
theorem d7 : decode yB 7 = .ok (.iconst 0, 1) := by decide +kernel
theorem d8 : decode yB 8 = .ok (.iload_n 2, 1) := by decide +kernel
theorem d9 : decode yB 9 = .ok (.invokestatic 115, 3) := by decide +kernel
theorem d12 : decode yB 12 = .ok (.istore 4, 2) := by decide +kernel
theorem d14 : decode yB 14 = .ok (.iload 4, 2) := by decide +kernel
theorem d16 : decode yB 16 = .ok (.iload_n 2, 1) := by decide +kernel
theorem d17 : decode yB 17 = .ok (.if_icmp (.eq) 40, 3) := by decide +kernel
theorem d57 : decode yB 57 = .ok (.aload_n 3, 1) := by decide +kernel
theorem d58 : decode yB 58 = .ok (.areturn, 1) := by decide +kernel
def site : List Cond := [.arrayClass .byte, Cmp5.tab] ++ staticW U16 115 Cmp5.yN
def tab : Cond := tabOf yN yB 6 (some (.array .byte)) site
def P (b : Addr) (A : Cell) (o len : Nat) (args : Array Value) (s : State) : Prop := args = #[.ref b, .int (Int32.ofNat o), .int (Int32.ofNat len)] ∧ Ch b A s ∧ o + len ≤ A.slots.size ∧ len ≤ 536870912 ∧ ∀ i, i < len → ¬ 255 < cv A (o + i)
def E (b : Addr) (A : Cell) (o len : Nat) (r : Option Value) (s u : State) : Prop := NewArr .byte "[B" len (fun j => .int (lo8 (cv A (o + j)))) r s u ∧ u.heap.size = s.heap.size + 1
/-- no char of the range above 255: a new byte[] of their low bytes -/
theorem law (l : Launch) (b : Addr) (A : Cell) (o len : Nat) : Law l yN 3 3 1 18 yB 6 (some (.array .byte)) site (P b A o len) (E b A o len) [] 1 len := by
  refine Law.of_walk (plainFor_of_name (by decide +kernel)) (by decide +kernel) (by decide +kernel) (by decide) (fun _ _ h => by rw [h.1]; rfl) (fun _ U U' hal hh h => ⟨h.1, h.2.1.mv hal hh, h.2.2⟩) (fun r U U' V V' h1 hal h2 h => ⟨NewArr.mv r U U' V V' h1 hal h2 h.1, by rw [h1, h2]; exact h.2⟩) ?_
  intro p e s m args below meth c s₁ X0 hexec hbytes hml hret hlk hnm hown hh0 W hP
  obtain ⟨rfl, hA, l1, l2, hp⟩ := hP
  have a31 := hA.1.2.2.2
  have c1 : Steps p.tables e below (s₁.setTop (entryFrame m #[.ref b, .int (Int32.ofNat o), .int (Int32.ofNat len)] 6)) (s₁.setTop (mkF m 0 #[.val (.ref b), .val (.int (Int32.ofNat o)), .val (.int (Int32.ofNat len)), .unset, .unset, .unset] [])) := entry rfl
  have c2 : Steps p.tables e below (s₁.setTop (entryFrame m #[.ref b, .int (Int32.ofNat o), .int (Int32.ofNat len)] 6)) (s₁.setTop (mkF m 1 #[.val (.ref b), .val (.int (Int32.ofNat o)), .val (.int (Int32.ofNat len)), .unset, .unset, .unset] [.int (Int32.ofNat len)])) := c1.trans (by
    refine XS.iloadN X0.here hexec rfl (hb hbytes d0) rfl ?_
    exact Steps.refl _)
  obtain ⟨T3, B3, X3, ba3, bs3, bv3, bh3, bf3, st3⟩ := X0.anew hexec (atype := .byte) (wk W (.arrayClass .byte)) rfl (by show len * 1 ≤ _; omega) (by omega) (g := (mkF m 1 #[.val (.ref b), .val (.int (Int32.ofNat o)), .val (.int (Int32.ofNat len)), .unset, .unset, .unset] [.int (Int32.ofNat len)])) rfl (hb hbytes d1) (rest := []) rfl (Nat.le_refl _) (by show 0 + len ≤ len; omega)
  rw [hh0] at ba3 st3
  have kp3 : XT.Kept s T3 := (XT.Kept.of_eq hh0).push bh3
  have hA3 := hA.keep X3.warmed.alike (kp3 _ _ hA.1.1)
  have hne : b ≠ s.heap.size := hA.1.ne
  have c4 : Steps p.tables e below (s₁.setTop (entryFrame m #[.ref b, .int (Int32.ofNat o), .int (Int32.ofNat len)] 6)) (T3.setTop (mkF m 3 #[.val (.ref b), .val (.int (Int32.ofNat o)), .val (.int (Int32.ofNat len)), .unset, .unset, .unset] [.ref s.heap.size])) := c2.trans (st3 _ (Steps.refl _))
  have c5 : Steps p.tables e below (s₁.setTop (entryFrame m #[.ref b, .int (Int32.ofNat o), .int (Int32.ofNat len)] 6)) (T3.setTop (mkF m 9 #[.val (.ref b), .val (.int (Int32.ofNat o)), .val (.int (Int32.ofNat len)), .val (.ref s.heap.size), .unset, .unset] [.int (Int32.ofNat len), .int 0, .ref s.heap.size, .int (Int32.ofNat o), .ref b])) := c4.trans (by
    refine XS.astoreN X3.here hexec rfl (hb hbytes d3) rfl rfl rfl ?_
    refine XS.aloadN X3.here hexec rfl (hb hbytes d4) rfl rfl ?_
    refine XS.iloadN X3.here hexec rfl (hb hbytes d5) rfl ?_
    refine XS.aloadN X3.here hexec rfl (hb hbytes d6) rfl rfl ?_
    refine iconstV X3.here hexec rfl 0 (hb hbytes d7) (by decide) ?_
    refine XS.iloadN X3.here hexec rfl (hb hbytes d8) rfl ?_
    exact Steps.refl _)
  obtain ⟨v6, T6, X6, E6, g6⟩ := X3.callS hexec (Cmp5.law l b A s.heap.size B3 o 0 len) hown (wks W (staticW U16 115 Cmp5.yN)) (wk W Cmp5.tab) (W := 0) (Nat.le_of_ble_eq_true rfl) (Nat.le_of_ble_eq_true rfl) (Nat.le_refl _) (by show 0 + len + 0 ≤ len; omega) (g := (mkF m 9 #[.val (.ref b), .val (.int (Int32.ofNat o)), .val (.int (Int32.ofNat len)), .val (.ref s.heap.size), .unset, .unset] [.int (Int32.ofNat len), .int (Int32.ofNat 0), .ref s.heap.size, .int (Int32.ofNat o), .ref b])) rfl (by rw [hml]; rfl) c5 (argsL := [.ref b, .int (Int32.ofNat o), .ref s.heap.size, .int (Int32.ofNat 0), .int (Int32.ofNat len)]) (rest := []) rfl rfl (by show 2 * 0 + 0 ≤ _; decide) (hb hbytes d9) (⟨rfl, hA3, ba3, hne, l1, by rw [bs3]; simp, hp⟩)
  obtain ⟨rfl, B6, p6, f6⟩ := E6
  have c7 : Steps p.tables e below (s₁.setTop (entryFrame m #[.ref b, .int (Int32.ofNat o), .int (Int32.ofNat len)] 6)) (T6.setTop (mkF m 12 #[.val (.ref b), .val (.int (Int32.ofNat o)), .val (.int (Int32.ofNat len)), .val (.ref s.heap.size), .unset, .unset] [.int (Int32.ofNat len)])) := g6
  have c8 : Steps p.tables e below (s₁.setTop (entryFrame m #[.ref b, .int (Int32.ofNat o), .int (Int32.ofNat len)] 6)) (T6.setTop (mkF m 58 #[.val (.ref b), .val (.int (Int32.ofNat o)), .val (.int (Int32.ofNat len)), .val (.ref s.heap.size), .val (.int (Int32.ofNat len)), .unset] [.ref s.heap.size])) := c7.trans (by
    refine XS.istore X6.here hexec rfl (hb hbytes d12) rfl rfl ?_
    refine XS.iload X6.here hexec rfl (hb hbytes d14) rfl ?_
    refine XS.iloadN X6.here hexec rfl (hb hbytes d16) rfl ?_
    refine XS.icmpYes X6.here hexec rfl (pc0 := 17) rfl (hb hbytes d17) rfl (ii_eq_t rfl) (by decide) rfl ?_
    refine XS.aloadN X6.here hexec rfl (hb hbytes d57) rfl rfl ?_
    exact Steps.refl _)
  have X8 := X6.wide (L' := []) (cells' := 1) (slots' := len) (fun x hx hlt => by
    simp only [List.nil_append, copyLocs, List.mem_map, List.mem_range] at hx
    obtain ⟨i, -, rfl⟩ := hx
    exact absurd hlt (Nat.lt_irrefl _)) (Nat.le_refl _) (by omega)
  exact ⟨T6, some (.ref s.heap.size), _, _, _, X8, rfl, rfl, rfl, (fun h => by cases h), ⟨⟨rfl, B6, ba3.like (X3.warmed.alike.symm.trans X6.warmed.alike) p6.1 f6.1 f6.2.1 f6.2.2.1, f6.2.1.trans bv3, by rw [X6.warmed.alike.findClass, f6.1]; exact bf3, by rw [f6.2.2.1, bs3]; simp, fun j hj => by rw [f6.2.2.2 j, if_pos (by omega)]; rfl, kp3.put p6 (Nat.le_refl _)⟩, by rw [p6.2.2, bh3, hh0]; simp⟩, fun fs hl => c8.trans (X8.areturnOut hexec rfl hret rfl (hb hbytes d58) hl)⟩
end Cmp3
namespace CodL
def yN : MethodName := ⟨"java/lang/StringUTF16", "coderFromArrayLen", "([BI)B"⟩
abbrev yB : ByteArray := jdk_52_method_15_code
theorem d0 : decode yB 0 = .ok (.iload_n 1, 1) := by decide +kernel
theorem d1 : decode yB 1 = .ok (.aload_n 0, 1) := by decide +kernel
theorem d2 : decode yB 2 = .ok (.arraylength, 1) := by decide +kernel
theorem d3 : decode yB 3 = .ok (.isub, 1) := by decide +kernel
theorem d4 : decode yB 4 = .ok (.bipush 31, 2) := by decide +kernel
theorem d6 : decode yB 6 = .ok (.iushr, 1) := by decide +kernel
theorem d7 : decode yB 7 = .ok (.i2b, 1) := by decide +kernel
theorem d8 : decode yB 8 = .ok (.ireturn, 1) := by decide +kernel
def site : List Cond := []
def tab : Cond := tabOf yN yB 2 (some .byte) site
def P (d : Addr) (B : Cell) (args : Array Value) (s : State) : Prop := args = #[.ref d, .int (Int32.ofNat B.slots.size)] ∧ Arr .byte d B s
def E (r : Option Value) (s u : State) : Prop := XT.PureE (some (.int 0)) r s u
/-- an array as long as the number of chars: LATIN1 -/
theorem law (l : Launch) (d : Addr) (B : Cell) : Law l yN 2 2 0 0 yB 2 (some .byte) site (P d B) E [] 0 0 := by
  refine Law.of_walk (plainFor_of_name (by decide +kernel)) (by decide +kernel) (by decide +kernel) (by decide) (fun _ _ h => by rw [h.1]; rfl) (fun _ U U' hal hh h => ⟨h.1, h.2.mv hal hh⟩) (fun r U U' V V' h1 hal h2 h => XT.PureE.mv r U U' V V' h1 hal h2 h) ?_
  intro p e s m args below meth c s₁ X0 hexec hbytes hml hret hlk hnm hown hh0 W hP
  obtain ⟨rfl, hB⟩ := hP
  have hB0 := hB.mv X0.warmed.alike hh0
  have c1 : Steps p.tables e below (s₁.setTop (entryFrame m #[.ref d, .int (Int32.ofNat B.slots.size)] 2)) (s₁.setTop (mkF m 0 #[.val (.ref d), .val (.int (Int32.ofNat B.slots.size))] [])) := entry rfl
  have c2 : Steps p.tables e below (s₁.setTop (entryFrame m #[.ref d, .int (Int32.ofNat B.slots.size)] 2)) (s₁.setTop (mkF m 2 #[.val (.ref d), .val (.int (Int32.ofNat B.slots.size))] [.ref d, .int (Int32.ofNat B.slots.size)])) := c1.trans (by
    refine XS.iloadN X0.here hexec rfl (hb hbytes d0) rfl ?_
    refine XS.aloadN X0.here hexec rfl (hb hbytes d1) rfl rfl ?_
    exact Steps.refl _)
  have c3 : Steps p.tables e below (s₁.setTop (entryFrame m #[.ref d, .int (Int32.ofNat B.slots.size)] 2)) (s₁.setTop (mkF m 8 #[.val (.ref d), .val (.int (Int32.ofNat B.slots.size))] [.int (lo8 (ushr (Int32.ofNat B.slots.size - Int32.ofNat B.slots.size) 31))])) := c2.trans (by
    refine X0.alen hexec hB0 rfl rfl (hb hbytes d2) ?_
    refine XS.isub X0.here hexec rfl (hb hbytes d3) rfl ?_
    refine bipushV X0.here hexec rfl 31 (hb hbytes d4) (by decide) ?_
    refine iushr X0.here hexec rfl (hb hbytes d6) rfl ?_
    refine i2b X0.here hexec rfl (hb hbytes d7) rfl ?_
    exact Steps.refl _)
  have e0 : lo8 (ushr (Int32.ofNat B.slots.size - Int32.ofNat B.slots.size) 31) = 0 := by rw [Int32.sub_self]; decide
  rw [e0] at c3
  exact ⟨s₁, some (.int 0), _, _, _, X0, rfl, rfl, rfl, (fun h => by cases h), ⟨rfl, hh0⟩, fun fs hl => c3.trans (X0.ireturnOut hexec hret rfl (Or.inr (Or.inr (Or.inl rfl))) (hb hbytes d8) hl)⟩
end CodL
/-- the String at a is Latin-1 over a new byte[] (the heap's one new cell): the low bytes of the len chars of A from o on; every cell but a is kept -/
def Got (a : Addr) (D : Cell) (fV fC : Field) (A : Cell) (o len : Nat) (r : Option Value) (s u : State) : Prop := r = none ∧ ∃ D' V : Cell, Blank "java/lang/String" a D' u ∧ Same D D' [fV.slot, fC.slot] ∧ D'.slots[fV.slot]? = some (.ref s.heap.size) ∧ D'.slots[fC.slot]? = some (.int 0) ∧ Arr .byte s.heap.size V u ∧ V.vm = .none ∧ u.vm.findClass "[B" = some V.cls ∧ V.slots.size = len ∧ (∀ j, j < len → V.slots[j]? = some (.int (lo8 (cv A (o + j))))) ∧ (∀ (y : Addr) (c : Cell), y ≠ a → s.heap[y]? = some c → u.heap[y]? = some c) ∧ u.heap.size = s.heap.size + 1
theorem Got.mv {a : Addr} {D A : Cell} {fV fC : Field} {o len : Nat} : ∀ r (U U' V V' : State), U'.heap = U.heap → V.vm.Alike V'.vm → V'.heap = V.heap → Got a D fV fC A o len r U V → Got a D fV fC A o len r U' V' :=
  fun r U U' V V' h1 hal h2 ⟨e0, D', X, a1, a2, a3, a4, a5, a6, a7, a8, a9, a10, a11⟩ => ⟨e0, D', X, a1.mv hal h2, a2, by rw [h1]; exact a3, a4, by rw [h1]; exact a5.mv hal h2, a6, by rw [hal.findClass]; exact a7, a8, a9, by rw [h1, h2]; exact a10, by rw [h1, h2]; exact a11⟩
namespace New4
def yN : MethodName := ⟨"java/lang/String", "<init>", "([CIILjava/lang/Void;)V"⟩
abbrev yB : ByteArray := jdk_42_method_149_code
theorem d0 : decode yB 0 = .ok (.aload_n 0, 1) := by decide +kernel
theorem d1 : decode yB 1 = .ok (.invokespecial 1, 3) := by decide +kernel
theorem d4 : decode yB 4 = .ok (.iload_n 3, 1) := by decide +kernel
theorem d5 : decode yB 5 = .ok (.ifCond (.ne) 22, 3) := by decide +kernel
theorem d27 : decode yB 27 = .ok (.getstatic 38, 3) := by decide +kernel
theorem d30 : decode yB 30 = .ok (.ifCond (.eq) 28, 3) := by decide +kernel
theorem d33 : decode yB 33 = .ok (.aload_n 1, 1) := by decide +kernel
theorem d34 : decode yB 34 = .ok (.iload_n 2, 1) := by decide +kernel
theorem d35 : decode yB 35 = .ok (.iload_n 3, 1) := by decide +kernel
theorem d36 : decode yB 36 = .ok (.invokestatic 177, 3) := by decide +kernel
theorem d39 : decode yB 39 = .ok (.astore 5, 2) := by decide +kernel
theorem d41 : decode yB 41 = .ok (.aload_n 0, 1) := by decide +kernel
theorem d42 : decode yB 42 = .ok (.aload 5, 2) := by decide +kernel
theorem d44 : decode yB 44 = .ok (.iload_n 3, 1) := by decide +kernel
theorem d45 : decode yB 45 = .ok (.invokestatic 47, 3) := by decide +kernel
theorem d48 : decode yB 48 = .ok (.putfield 15, 3) := by decide +kernel
theorem d51 : decode yB 51 = .ok (.aload_n 0, 1) := by decide +kernel
theorem d52 : decode yB 52 = .ok (.aload 5, 2) := by decide +kernel
theorem d54 : decode yB 54 = .ok (.putfield 9, 3) := by decide +kernel
theorem d57 : decode yB 57 = .ok (.return_, 1) := by decide +kernel
def site : List Cond := [.fieldLink "java/lang/String" 38 "java/lang/String" "COMPACT_STRINGS" "Z", Cmp3.tab, CodL.tab, .laysFinal "java/lang/String" "java/lang/String" "value" "[B", .fieldLink "java/lang/String" 9 "java/lang/String" "value" "[B", .laysFinal "java/lang/String" "java/lang/String" "coder" "B", .fieldLink "java/lang/String" 15 "java/lang/String" "coder" "B"] ++ objW "java/lang/String" 1 ++ staticW "java/lang/String" 177 Cmp3.yN ++ staticW "java/lang/String" 47 CodL.yN
def tab : Cond := tabOf yN yB 6 none site
def P (a : Addr) (D : Cell) (fV fC : Field) (b : Addr) (A : Cell) (z : Int32) (o len : Nat) (args : Array Value) (s : State) : Prop := args = #[.ref a, .ref b, .int (Int32.ofNat o), .int (Int32.ofNat len), .null] ∧ Blank "java/lang/String" a D s ∧ Found "java/lang/String" "value" "[B" fV s ∧ Found "java/lang/String" "coder" "B" fC s ∧ Ch b A s ∧ StaticIs s "java/lang/String" "COMPACT_STRINGS" "Z" (.int z) ∧ ¬ z = 0 ∧ 0 < len ∧ o + len ≤ A.slots.size ∧ len ≤ 536870912 ∧ ∀ i, i < len → ¬ 255 < cv A (o + i)
def E (a : Addr) (D : Cell) (fV fC : Field) (A : Cell) (o len : Nat) (r : Option Value) (s u : State) : Prop := Got a D fV fC A o len r s u
/-- len > 0, no char of the range above 255: a Latin-1 String of their low bytes -/
theorem law (l : Launch) (a : Addr) (D : Cell) (fV fC : Field) (b : Addr) (A : Cell) (z : Int32) (o len : Nat) : Law l yN 5 4 2 35 yB 6 none site (P a D fV fC b A z o len) (E a D fV fC A o len) [⟨a, fC.slot⟩, ⟨a, fV.slot⟩] 1 len := by
  refine Law.of_walk (plainFor_of_name (by decide +kernel)) (by decide +kernel) (by decide +kernel) (by decide) (fun _ _ h => by rw [h.1]; rfl) (fun _ U U' hal hh h => ⟨h.1, h.2.1.mv hal hh, h.2.2.1.al hal, h.2.2.2.1.al hal, h.2.2.2.2.1.mv hal hh, h.2.2.2.2.2.1.there hal hh, h.2.2.2.2.2.2⟩) (fun r U U' V V' h1 hal h2 h => Got.mv r U U' V V' h1 hal h2 h) ?_
  intro p e s m args below meth c s₁ X0 hexec hbytes hml hret hlk hnm hown hh0 W hP
  obtain ⟨rfl, hB, f1, f2, hA, s1, hz, l0, l1, l2, hp⟩ := hP
  have a31 := hA.1.2.2.2
  have c1 : Steps p.tables e below (s₁.setTop (entryFrame m #[.ref a, .ref b, .int (Int32.ofNat o), .int (Int32.ofNat len), .null] 6)) (s₁.setTop (mkF m 0 #[.val (.ref a), .val (.ref b), .val (.int (Int32.ofNat o)), .val (.int (Int32.ofNat len)), .val .null, .unset] [])) := entry rfl
  have c2 : Steps p.tables e below (s₁.setTop (entryFrame m #[.ref a, .ref b, .int (Int32.ofNat o), .int (Int32.ofNat len), .null] 6)) (s₁.setTop (mkF m 1 #[.val (.ref a), .val (.ref b), .val (.int (Int32.ofNat o)), .val (.int (Int32.ofNat len)), .val .null, .unset] [.ref a])) := c1.trans (by
    refine XS.aloadN X0.here hexec rfl (hb hbytes d0) rfl rfl ?_
    exact Steps.refl _)
  obtain ⟨T3, X3, q3, st3⟩ := X0.oinit hexec hown (wks W (objW "java/lang/String" 1)) (g := (mkF m 1 #[.val (.ref a), .val (.ref b), .val (.int (Int32.ofNat o)), .val (.int (Int32.ofNat len)), .val .null, .unset] [.ref a])) rfl (by rw [hml]; rfl) (rest := []) rfl (hb hbytes d1) (W := 0) (by show 2 * 0 + 0 ≤ _; decide) (Nat.le_of_ble_eq_true rfl) (Nat.le_of_ble_eq_true rfl)
  have hh3 := q3.trans hh0
  have c4 : Steps p.tables e below (s₁.setTop (entryFrame m #[.ref a, .ref b, .int (Int32.ofNat o), .int (Int32.ofNat len), .null] 6)) (T3.setTop (mkF m 27 #[.val (.ref a), .val (.ref b), .val (.int (Int32.ofNat o)), .val (.int (Int32.ofNat len)), .val .null, .unset] [])) := (c2.trans (st3 _ (Steps.refl _))).trans (by
    refine XS.iloadN X3.here hexec rfl (hb hbytes d4) rfl ?_
    refine XS.ifYes X3.here hexec rfl (pc0 := 5) rfl (hb hbytes d5) rfl (i0_ne_t (nz32 (by omega) l0)) (by decide) rfl ?_
    exact Steps.refl _)
  obtain ⟨T5, X5, q5, st5⟩ := X3.sget hexec hown (wk W (.fieldLink "java/lang/String" 38 "java/lang/String" "COMPACT_STRINGS" "Z")) s1 (fun _ _ h => by rw [hh3]; exact h) (g := (mkF m 27 #[.val (.ref a), .val (.ref b), .val (.int (Int32.ofNat o)), .val (.int (Int32.ofNat len)), .val .null, .unset] [])) rfl (hb hbytes d27)
  have hh5 := q5.trans hh3
  have c6 : Steps p.tables e below (s₁.setTop (entryFrame m #[.ref a, .ref b, .int (Int32.ofNat o), .int (Int32.ofNat len), .null] 6)) (T5.setTop (mkF m 30 #[.val (.ref a), .val (.ref b), .val (.int (Int32.ofNat o)), .val (.int (Int32.ofNat len)), .val .null, .unset] [.int z])) := c4.trans (st5 _ (Steps.refl _))
  have c7 : Steps p.tables e below (s₁.setTop (entryFrame m #[.ref a, .ref b, .int (Int32.ofNat o), .int (Int32.ofNat len), .null] 6)) (T5.setTop (mkF m 36 #[.val (.ref a), .val (.ref b), .val (.int (Int32.ofNat o)), .val (.int (Int32.ofNat len)), .val .null, .unset] [.int (Int32.ofNat len), .int (Int32.ofNat o), .ref b])) := c6.trans (by
    refine XS.ifNo X5.here hexec rfl (hb hbytes d30) rfl (i0_eq_f hz) ?_
    refine XS.aloadN X5.here hexec rfl (hb hbytes d33) rfl rfl ?_
    refine XS.iloadN X5.here hexec rfl (hb hbytes d34) rfl ?_
    refine XS.iloadN X5.here hexec rfl (hb hbytes d35) rfl ?_
    exact Steps.refl _)
  obtain ⟨v8, T8, X8, E8, g8⟩ := X5.callS hexec (Cmp3.law l b A o len) hown (wks W (staticW "java/lang/String" 177 Cmp3.yN)) (wk W Cmp3.tab) (W := 0) (Nat.le_of_ble_eq_true rfl) (Nat.le_of_ble_eq_true rfl) (Nat.le_refl _) (by show 0 + len ≤ len; omega) (g := (mkF m 36 #[.val (.ref a), .val (.ref b), .val (.int (Int32.ofNat o)), .val (.int (Int32.ofNat len)), .val .null, .unset] [.int (Int32.ofNat len), .int (Int32.ofNat o), .ref b])) rfl (by rw [hml]; rfl) c7 (argsL := [.ref b, .int (Int32.ofNat o), .int (Int32.ofNat len)]) (rest := []) rfl rfl (by show 2 * 0 + 0 ≤ _; decide) (hb hbytes d36) (⟨rfl, hA.mv X5.warmed.alike hh5, l1, l2, hp⟩)
  obtain ⟨e8, z8⟩ := E8
  obtain ⟨rfl, N, n1, n2, n3, n4, n5, n6⟩ := NewArr.mv _ T5 s _ _ hh5.symm (Vm.Alike.refl _) rfl e8
  rw [hh5] at z8
  have hB1 := hB.keep X8.warmed.alike (n6 _ _ hB.1)
  have hne : s.heap.size ≠ a := (Nat.ne_of_lt (Array.getElem?_eq_some_iff.mp hB.1).1).symm
  have c9 : Steps p.tables e below (s₁.setTop (entryFrame m #[.ref a, .ref b, .int (Int32.ofNat o), .int (Int32.ofNat len), .null] 6)) (T8.setTop (mkF m 39 #[.val (.ref a), .val (.ref b), .val (.int (Int32.ofNat o)), .val (.int (Int32.ofNat len)), .val .null, .unset] [.ref s.heap.size])) := g8
  have c10 : Steps p.tables e below (s₁.setTop (entryFrame m #[.ref a, .ref b, .int (Int32.ofNat o), .int (Int32.ofNat len), .null] 6)) (T8.setTop (mkF m 45 #[.val (.ref a), .val (.ref b), .val (.int (Int32.ofNat o)), .val (.int (Int32.ofNat len)), .val .null, .val (.ref s.heap.size)] [.int (Int32.ofNat N.slots.size), .ref s.heap.size, .ref a])) := by
    have hc : Steps p.tables e below (s₁.setTop (entryFrame m #[.ref a, .ref b, .int (Int32.ofNat o), .int (Int32.ofNat len), .null] 6)) (T8.setTop (mkF m 45 #[.val (.ref a), .val (.ref b), .val (.int (Int32.ofNat o)), .val (.int (Int32.ofNat len)), .val .null, .val (.ref s.heap.size)] [.int (Int32.ofNat len), .ref s.heap.size, .ref a])) := c9.trans (by
      refine XS.astore X8.here hexec rfl (hb hbytes d39) rfl rfl rfl ?_
      refine XS.aloadN X8.here hexec rfl (hb hbytes d41) rfl rfl ?_
      refine XS.aload X8.here hexec rfl (hb hbytes d42) rfl rfl ?_
      refine XS.iloadN X8.here hexec rfl (hb hbytes d44) rfl ?_
      exact Steps.refl _)
    rw [n4]; exact hc
  obtain ⟨v11, T11, X11, E11, g11⟩ := X8.callS hexec (CodL.law l s.heap.size N) hown (wks W (staticW "java/lang/String" 47 CodL.yN)) (wk W CodL.tab) (W := 1) (Nat.le_of_ble_eq_true rfl) (Nat.le_of_ble_eq_true rfl) (Nat.le_refl _) (by show 0 + len + 0 ≤ len; omega) (g := (mkF m 45 #[.val (.ref a), .val (.ref b), .val (.int (Int32.ofNat o)), .val (.int (Int32.ofNat len)), .val .null, .val (.ref s.heap.size)] [.int (Int32.ofNat N.slots.size), .ref s.heap.size, .ref a])) rfl (by rw [hml]; rfl) c10 (argsL := [.ref s.heap.size, .int (Int32.ofNat N.slots.size)]) (rest := [.ref a]) rfl rfl (by show 2 * 0 + (1 + 0) ≤ _; decide) (hb hbytes d45) (⟨rfl, n1⟩)
  obtain ⟨rfl, q11⟩ := E11
  have hB11 := hB1.mv (X8.warmed.alike.symm.trans X11.warmed.alike) q11
  have c12 : Steps p.tables e below (s₁.setTop (entryFrame m #[.ref a, .ref b, .int (Int32.ofNat o), .int (Int32.ofNat len), .null] 6)) (T11.setTop (mkF m 48 #[.val (.ref a), .val (.ref b), .val (.int (Int32.ofNat o)), .val (.int (Int32.ofNat len)), .val .null, .val (.ref s.heap.size)] [.int 0, .ref a])) := g11
  obtain ⟨T13, X13, p13, bl13, sl13, st13⟩ := X11.finit hexec hown (wk W (.fieldLink "java/lang/String" 15 "java/lang/String" "coder" "B")) (Or.inr ⟨_, (wk W (.laysFinal "java/lang/String" "java/lang/String" "coder" "B"))⟩) (Or.inl ⟨rfl, hnm⟩) f2 (Or.inl rfl) hB11 (t := .byte) (by decide +kernel) rfl (g := (mkF m 48 #[.val (.ref a), .val (.ref b), .val (.int (Int32.ofNat o)), .val (.int (Int32.ofNat len)), .val .null, .val (.ref s.heap.size)] [.int 0, .ref a])) rfl (rest := []) rfl (hb hbytes d48)
  have c14 : Steps p.tables e below (s₁.setTop (entryFrame m #[.ref a, .ref b, .int (Int32.ofNat o), .int (Int32.ofNat len), .null] 6)) (T13.setTop (mkF m 54 #[.val (.ref a), .val (.ref b), .val (.int (Int32.ofNat o)), .val (.int (Int32.ofNat len)), .val .null, .val (.ref s.heap.size)] [.ref s.heap.size, .ref a])) := (c12.trans (st13 _ (Steps.refl _))).trans (by
    refine XS.aloadN X13.here hexec rfl (hb hbytes d51) rfl rfl ?_
    refine XS.aload X13.here hexec rfl (hb hbytes d52) rfl rfl ?_
    exact Steps.refl _)
  obtain ⟨T15, X15, p15, bl15, sl15, st15⟩ := X13.finit hexec hown (wk W (.fieldLink "java/lang/String" 9 "java/lang/String" "value" "[B")) (Or.inr ⟨_, (wk W (.laysFinal "java/lang/String" "java/lang/String" "value" "[B"))⟩) (Or.inl ⟨rfl, hnm⟩) f1 (Or.inl rfl) bl13 (t := (.array .byte)) (by decide +kernel) rfl (g := (mkF m 54 #[.val (.ref a), .val (.ref b), .val (.int (Int32.ofNat o)), .val (.int (Int32.ofNat len)), .val .null, .val (.ref s.heap.size)] [.ref s.heap.size, .ref a])) rfl (rest := []) rfl (hb hbytes d54)
  have c16 : Steps p.tables e below (s₁.setTop (entryFrame m #[.ref a, .ref b, .int (Int32.ofNat o), .int (Int32.ofNat len), .null] 6)) (T15.setTop (mkF m 57 #[.val (.ref a), .val (.ref b), .val (.int (Int32.ofNat o)), .val (.int (Int32.ofNat len)), .val .null, .val (.ref s.heap.size)] [])) := c14.trans (st15 _ (Steps.refl _))
  have ap := apart (Or.inr ⟨_, (wk W (.laysFinal "java/lang/String" "java/lang/String" "value" "[B"))⟩) (Or.inr ⟨_, (wk W (.laysFinal "java/lang/String" "java/lang/String" "coder" "B"))⟩) f1 f2 (t₁ := .array .byte) (t₂ := .byte) (by decide +kernel) (by decide +kernel) (by decide)
  have al := X8.warmed.alike.symm.trans X15.warmed.alike
  have n7 : T11.heap[s.heap.size]? = some N := by rw [q11]; exact n1.1
  exact ⟨T15, none, _, _, _, X15, by simp, rfl, by omega, (fun _ => rfl), ⟨rfl, _, N, bl15, ((Same.refl D _).set _ (by simp)).set _ (by simp), sl15, (Cell.slots_setSlot_ne _ ap).trans sl13, n1.keep al (p15.other hne (p13.other hne n7)), n2, by rw [al.findClass]; exact n3, n4, n5, fun y c h1 h2 => p15.other h1 (p13.other h1 (by rw [q11]; exact n6 y c h2)), by rw [p15.2.2, p13.2.2, q11]; exact z8⟩, fun fs hl => c16.trans (X15.returnOut hexec hret (hb hbytes d57) hl)⟩
end New4
namespace New1
def yN : MethodName := ⟨"java/lang/String", "<init>", "([C)V"⟩
abbrev yB : ByteArray := jdk_42_method_3_code
theorem d0 : decode yB 0 = .ok (.aload_n 0, 1) := by decide +kernel
theorem d1 : decode yB 1 = .ok (.aload_n 1, 1) := by decide +kernel
theorem d2 : decode yB 2 = .ok (.iconst 0, 1) := by decide +kernel
theorem d3 : decode yB 3 = .ok (.aload_n 1, 1) := by decide +kernel
theorem d4 : decode yB 4 = .ok (.arraylength, 1) := by decide +kernel
theorem d5 : decode yB 5 = .ok (.aconst_null, 1) := by decide +kernel
theorem d6 : decode yB 6 = .ok (.invokespecial 27, 3) := by decide +kernel
theorem d9 : decode yB 9 = .ok (.return_, 1) := by decide +kernel
def site : List Cond := [New4.tab] ++ initW "java/lang/String" 27 New4.yN
def tab : Cond := tabOf yN yB 2 none site
def P (a : Addr) (D : Cell) (fV fC : Field) (b : Addr) (A : Cell) (z : Int32) (args : Array Value) (s : State) : Prop := args = #[.ref a, .ref b] ∧ Blank "java/lang/String" a D s ∧ Found "java/lang/String" "value" "[B" fV s ∧ Found "java/lang/String" "coder" "B" fC s ∧ Ch b A s ∧ StaticIs s "java/lang/String" "COMPACT_STRINGS" "Z" (.int z) ∧ ¬ z = 0 ∧ 0 < A.slots.size ∧ A.slots.size ≤ 536870912 ∧ ∀ i, i < A.slots.size → ¬ 255 < cv A i
def E (a : Addr) (D : Cell) (fV fC : Field) (A : Cell) (r : Option Value) (s u : State) : Prop := Got a D fV fC A 0 A.slots.size r s u
/-- new String(chars), not empty, no char above 255: a Latin-1 String of their low bytes -/
theorem law (l : Launch) (a : Addr) (D : Cell) (fV fC : Field) (b : Addr) (A : Cell) (z : Int32) : Law l yN 2 1 3 52 yB 2 none site (P a D fV fC b A z) (E a D fV fC A) [⟨a, fC.slot⟩, ⟨a, fV.slot⟩] 1 A.slots.size := by
  refine Law.of_walk (plainFor_of_name (by decide +kernel)) (by decide +kernel) (by decide +kernel) (by decide) (fun _ _ h => by rw [h.1]; rfl) (fun _ U U' hal hh h => ⟨h.1, h.2.1.mv hal hh, h.2.2.1.al hal, h.2.2.2.1.al hal, h.2.2.2.2.1.mv hal hh, h.2.2.2.2.2.1.there hal hh, h.2.2.2.2.2.2⟩) (fun r U U' V V' h1 hal h2 h => Got.mv r U U' V V' h1 hal h2 h) ?_
  intro p e s m args below meth c s₁ X0 hexec hbytes hml hret hlk hnm hown hh0 W hP
  obtain ⟨rfl, hB, f1, f2, hA, s1, hz, l0, l2, hp⟩ := hP
  have c1 : Steps p.tables e below (s₁.setTop (entryFrame m #[.ref a, .ref b] 2)) (s₁.setTop (mkF m 0 #[.val (.ref a), .val (.ref b)] [])) := entry rfl
  have c2 : Steps p.tables e below (s₁.setTop (entryFrame m #[.ref a, .ref b] 2)) (s₁.setTop (mkF m 6 #[.val (.ref a), .val (.ref b)] [.null, .int (Int32.ofNat A.slots.size), .int 0, .ref b, .ref a])) := c1.trans (by
    refine XS.aloadN X0.here hexec rfl (hb hbytes d0) rfl rfl ?_
    refine XS.aloadN X0.here hexec rfl (hb hbytes d1) rfl rfl ?_
    refine iconstV X0.here hexec rfl 0 (hb hbytes d2) (by decide) ?_
    refine XS.aloadN X0.here hexec rfl (hb hbytes d3) rfl rfl ?_
    refine X0.alen hexec (hA.1.mv X0.warmed.alike hh0) rfl rfl (hb hbytes d4) ?_
    refine XS.aconstNull X0.here hexec rfl (hb hbytes d5) ?_
    exact Steps.refl _)
  obtain ⟨v3, T3, X3, E3, g3⟩ := X0.callN hexec (New4.law l a D fV fC b A z 0 A.slots.size) rfl hown (wks W (initW "java/lang/String" 27 New4.yN)) (W New4.tab (by simp only [site, List.mem_cons, List.mem_append, true_or, or_true])) (W := 0) (Nat.le_of_ble_eq_true rfl) (Nat.le_of_ble_eq_true rfl) (Nat.le_refl _) (by show 0 + A.slots.size ≤ A.slots.size; omega) (g := (mkF m 6 #[.val (.ref a), .val (.ref b)] [.null, .int (Int32.ofNat A.slots.size), .int (Int32.ofNat 0), .ref b, .ref a])) rfl (by rw [hml]; rfl) c2 (argsL := [.ref b, .int (Int32.ofNat 0), .int (Int32.ofNat A.slots.size), .null]) (rest := []) rfl rfl (by show 2 * 0 + 0 ≤ _; decide) (hb hbytes d6) (⟨rfl, hB.mv X0.warmed.alike hh0, f1.al X0.warmed.alike, f2.al X0.warmed.alike, hA.mv X0.warmed.alike hh0, s1.there X0.warmed.alike hh0, hz, l0, by omega, l2, fun i hi => by rw [Nat.zero_add]; exact hp i hi⟩)
  have e0 := Got.mv _ s₁ s _ _ hh0.symm (Vm.Alike.refl _) rfl E3
  obtain rfl := e0.1
  have c4 : Steps p.tables e below (s₁.setTop (entryFrame m #[.ref a, .ref b] 2)) (T3.setTop (mkF m 9 #[.val (.ref a), .val (.ref b)] [])) := g3
  exact ⟨T3, none, _, _, _, X3, by simp, rfl, by omega, (fun _ => rfl), e0, fun fs hl => c4.trans (X3.returnOut hexec hret (hb hbytes d9) hl)⟩
theorem pays {l : Launch} {R : Room} {p : Program} {e : Env} {below : List Frame} {s : State} {sargs : Array Value} {len W : Nat} (a : Addr) (D : Cell) (fV fC : Field) (b : Addr) (A : Cell) (z : Int32) (htab : tab.before sargs s = true) (hfr : 4 ≤ R.frames) (hlo : W + 65 ≤ R.locals) :
    Back l R p e below s sargs yN len W (fun A₁ a₁ => A₁.cells + 1 ≤ R.cells ∧ A₁.slots + A.slots.size ≤ R.slots ∧ P a D fV fC b A z a₁ A₁.U) (fun A₁ _ v₁ B₁ => E a D fV fC A v₁ A₁.U B₁.U ∧ B₁.locs = A₁.locs ++ [⟨a, fC.slot⟩, ⟨a, fV.slot⟩] ∧ B₁.cells = A₁.cells + 1 ∧ B₁.slots = A₁.slots + A.slots.size) :=
  (law l a D fV fC b A z).pays htab hfr (by omega)
end New1
/-- the byte, read back as charAt reads it, is the char -/
theorem lo8_mask {x : Int32} (h0 : ¬ x < 0) (h1 : ¬ 255 < x) : lo8 x &&& 255 = x := by
  have t : ∀ k : Fin 256, lo8 (Int32.ofNat k.val) &&& 255 = Int32.ofNat k.val := by decide +kernel
  rw [Int32.lt_iff_toInt_lt] at h0 h1
  have e0 : (0 : Int32).toInt = 0 := rfl
  have e1 : (255 : Int32).toInt = 255 := rfl
  obtain ⟨k, hk⟩ : ∃ k : Nat, x.toInt = k := ⟨x.toInt.toNat, by omega⟩
  have hx : x = Int32.ofNat k := Int32.toInt_inj.mp (by rw [hk, Int32.toInt_ofNat_small (by omega)])
  rw [hx]
  exact t ⟨k, by omega⟩
end StrChars
namespace StrChars.Road
open Jvm Sem ClassFile Op Lib Jvm.Stand Jvm.Free Jvm.Free.XT
open Jvm.Lib.Cold (StaticIs)
abbrev ST : String := "java/lang/String"
/-- every table word that New1's law asks, flat -/
abbrev words : List Jvm.Cond := [.code New1.yN New1.yB 2 none, .initialized ST, .methodLink ST 27 New4.yN, .instanceMethod New4.yN,
  .code New4.yN New4.yB 6 none, .fieldLink ST 38 ST "COMPACT_STRINGS" "Z", .laysFinal ST ST "value" "[B", .fieldLink ST 9 ST "value" "[B", .laysFinal ST ST "coder" "B", .fieldLink ST 15 ST "coder" "B",
  .methodLink ST 1 Lib.objectInit, .instanceMethod Lib.objectInit, .code Lib.objectInit ⟨#[0xb1]⟩ 1 none, .methodLink ST 177 Cmp3.yN, .static Cmp3.yN, .methodLink ST 47 CodL.yN, .static CodL.yN,
  .code Cmp3.yN Cmp3.yB 6 (some (.array .byte)), .initialized U16, .arrayClass .byte, .methodLink U16 115 Cmp5.yN, .static Cmp5.yN, .code Cmp5.yN Cmp5.yB 7 (some .int), .code CodL.yN CodL.yB 2 (some .byte)]
theorem tab_of {a : Array Value} {s : State} (h : ∀ w ∈ words, w.before a s = true) : New1.tab.before a s = true := by
  have h5 : Cmp5.tab.before a s = true := unparts (wk h (.code Cmp5.yN Cmp5.yB 7 (some .int))) (wks h (.initialized Cmp5.yN.cls :: Cmp5.site))
  have hc : CodL.tab.before a s = true := unparts (wk h (.code CodL.yN CodL.yB 2 (some .byte))) (wks h (.initialized CodL.yN.cls :: CodL.site))
  have q5 : ∀ w ∈ Cmp5.tab :: words, w.before a s = true := fun w hw => (List.mem_cons.mp hw).elim (fun e => e ▸ h5) (h w)
  have h3 : Cmp3.tab.before a s = true := unparts (wk q5 (.code Cmp3.yN Cmp3.yB 6 (some (.array .byte)))) (wks q5 (.initialized Cmp3.yN.cls :: Cmp3.site))
  have q3 : ∀ w ∈ Cmp3.tab :: CodL.tab :: words, w.before a s = true := fun w hw => (List.mem_cons.mp hw).elim (fun e => e ▸ h3) fun hw => (List.mem_cons.mp hw).elim (fun e => e ▸ hc) (h w)
  have h4 : New4.tab.before a s = true := unparts (wk q3 (.code New4.yN New4.yB 6 none)) (wks q3 (.initialized New4.yN.cls :: New4.site))
  have q4 : ∀ w ∈ New4.tab :: words, w.before a s = true := fun w hw => (List.mem_cons.mp hw).elim (fun e => e ▸ h4) (h w)
  exact unparts (wk q4 (.code New1.yN New1.yB 2 none)) (wks q4 (.initialized New1.yN.cls :: New1.site))
/-- the words ride from the start Z to the walk's own state -/
theorem moved {Z s : State} {a0 args : Array Value} (hZ : Z.Warmed39 s.vm) (hw : ∀ d ∈ words, d.before a0 Z = true) : ∀ d ∈ words, d.before args s = true := fun d hd => by
  have q := hw d hd
  have t : ∀ d ∈ words, d = .arrayClass .byte ∨ (d.onTables && d.keepsFace) = true := by decide +kernel
  rcases t d hd with rfl | t
  · exact RoadKit.mvA hZ q
  · exact RoadKit.mv hZ q t
/-- WHAT COMES BACK, over the tables of the start Z: h the heap at the call, h' behind it -/
def Q (Z : State) (x : Addr) (A : Cell) (h : Heap) (v : Option Value) (h' : Heap) (L : List Loc) : Prop := v = none ∧ (∀ y ∈ L, y.base = x) ∧ RoadKit.Keep h h' [x] ∧ h'.size = h.size + 1 ∧ RoadKit.Exa Z h' x ST ∧ RoadKit.Fld Z h' x ST "value" "[B" (.ref h.size) ∧ RoadKit.Fld Z h' x ST "coder" "B" (.int 0) ∧
  (∃ V : Cell, RoadKit.Arr Z h' h.size V .byte ∧ V.vm = .none ∧ Z.vm.findClass "[B" = some V.cls ∧ V.slots.size = A.slots.size ∧ ∀ j, j < A.slots.size → V.slots[j]? = some (.int (lo8 (cv A j)))) ∧
  ∀ (O n d : String) (w : Value), RoadKit.Fld Z h x O n d w → RoadKit.slotOf Z O n d ≠ RoadKit.slotOf Z ST "value" "[B" → RoadKit.slotOf Z O n d ≠ RoadKit.slotOf Z ST "coder" "B" → RoadKit.Fld Z h' x O n d w
/-- **new String(chars) AT A CALL, IN THE ROAD'S FORM**: for specialBack behind newO: x the fresh String, b the char[] with the cell A -/
theorem back {p : Program} {l : Launch} {e : Env} {R : Room} {s : State} {args : Array Value} {below : List Frame} {len W : Nat} {Z : State} {a0 : Array Value} {h : Heap} (hZ : Z.Warmed39 s.vm) (hw : ∀ d ∈ words, d.before a0 Z = true) {kI : Nat} (wi : (Jvm.Cond.instantiable ST kI).before a0 Z = true)
    {x b : Addr} {A : Cell} {z : Int32} {v0 c0 : Value} (E : RoadKit.Exa Z h x ST) (V : RoadKit.Fld Z h x ST "value" "[B" v0) (C : RoadKit.Fld Z h x ST "coder" "B" c0) (K : RoadKit.Arr Z h b A .char) (hty : Typed .char A) (S : RoadKit.Sta Z h ST "COMPACT_STRINGS" "Z" (.int z)) (hz : ¬ z = 0)
    (l0 : 0 < A.slots.size) (l2 : A.slots.size ≤ 536870912) (hp : ∀ i, i < A.slots.size → ¬ 255 < cv A i) (hfr : 4 ≤ R.frames) (hlo : W + 65 ≤ R.locals) :
    Back l R p e below s args New1.yN len W (fun P a => a = #[.ref x, .ref b] ∧ P.U.heap = h ∧ P.cells + 1 ≤ R.cells ∧ P.slots + A.slots.size ≤ R.slots)
      (fun P _ v B => ∃ L, Q Z x A h v B.U.heap L ∧ B.locs = P.locs ++ L ∧ B.cells = P.cells + 1 ∧ B.slots = P.slots + A.slots.size) := by
  intro m meth c P g ig mk a X hg hsize hdg hW hn hp'
  obtain ⟨rfl, rfl, r1, r2⟩ := hp'
  have al : Z.vm.Alike P.U.vm := hZ.alike.trans X.warmed.alike
  obtain ⟨D, cfV, kV, iV, fV, hD, gV, stV, knV, obV, asV, slV⟩ := id V
  obtain ⟨D', cfC, kC, iC, fC, hD', gC, stC, -, -, asC, slC⟩ := id C
  cases hD.symm.trans hD'
  obtain ⟨D2, kD, e1, e2, e3, e4, e5⟩ := id E
  cases hD.symm.trans e1
  obtain ⟨c2, k2, i1, i2, i3, -⟩ := Cond.instantiable_spec wi
  cases e2.symm.trans i1
  cases e3.symm.trans i2
  obtain ⟨kU, u1, u2⟩ := al.2.2 _ _ e3
  have hB : Blank ST x D P.U := ⟨hD, ⟨knV, fun q hq => by rw [hq] at obV; cases obV⟩, by rw [al.findClass]; exact e2, kU, u1, by rw [u2]; exact i3, by rw [u2]; exact e5 i3⟩
  have F1 : Found ST "value" "[B" fV P.U := ⟨SBG.found_only al ⟨cfV, kV, iV, gV⟩, stV⟩
  have F2 : Found ST "coder" "B" fC P.U := ⟨SBG.found_only al ⟨cfC, kC, iC, gC⟩, stC⟩
  have hA : Ch b A P.U := ⟨⟨K.1, State.isArrayOf_alike al K.2.1, K.2.2, by omega⟩, hty⟩
  have hS : StaticIs P.U ST "COMPACT_STRINGS" "Z" (.int z) := by
    obtain ⟨cfS, iS, kS, fS, st, cS, t1, t2, t3, t4, t5, t6, t7⟩ := S
    exact StaticIs.there (s := { Z with heap := P.U.heap }) ⟨cfS, iS, kS, fS, st, cS, t1, t2, t3, t4, t5, (fun q => by rw [q] at t6; cases t6), t7⟩ al rfl
  obtain ⟨v, B, X', ⟨⟨hv, E', V', q1, q2, q3, q4, q5, q6, q7, q8, q9, q10, q11⟩, hl, hc, hs⟩, st⟩ := New1.pays x D fV fC b A z (tab_of (moved hZ hw)) hfr hlo m meth c P g ig mk _ X hg hsize hdg hW hn ⟨r1, r2, rfl, hB, F1, F2, hA, hS, hz, l0, l2, hp⟩
  have al' : Z.vm.Alike B.U.vm := hZ.alike.trans X'.warmed.alike
  have hsz : E'.slots.size = D.slots.size := by
    obtain ⟨-, -, -, kB, w1, w2, w3⟩ := q1
    obtain ⟨kB', y1, y2⟩ := al'.2.2 _ _ e3
    rw [q2.2.1] at w1
    cases w1.symm.trans y1
    rw [w3, e5 i3, y2]
  refine ⟨v, B, X', ⟨_, ⟨hv, ?_, ⟨by omega, fun y cy hy hn' => q10 y cy (by simpa using hn') hy, fun y cy hy => ?_⟩, q11, ⟨E', _, q1.1, by rw [q2.2.1]; exact e2, by rw [q2.2.1]; exact e3, by rw [q2.1]; exact obV, fun _ => by rw [hsz]; exact e5 i3⟩,
    ⟨E', cfV, kV, iV, fV, q1.1, gV, stV, by rw [q2.1]; exact knV, by rw [q2.1]; exact obV, by rw [q2.2.1]; exact asV, q3⟩, ⟨E', cfC, kC, iC, fC, q1.1, gC, stC, by rw [q2.1]; exact knV, by rw [q2.1]; exact obV, by rw [q2.2.1]; exact asC, q4⟩,
    ⟨V', ⟨q5.1, State.isArrayOf_alike al'.symm q5.2.1, q5.2.2.1⟩, q6, by rw [← al'.findClass]; exact q7, q8, fun j hj => by have := q9 j hj; rwa [Nat.zero_add] at this⟩, fun O n d w F n1 n2 => ?_⟩, hl, hc, hs⟩, st⟩
  · intro y hy
    simp only [List.mem_cons, List.not_mem_nil, or_false] at hy
    rcases hy with rfl | rfl <;> rfl
  · by_cases q : y = x
    · subst q
      cases hD.symm.trans hy
      exact ⟨E', q1.1, q2.2.1, q2.1, hsz⟩
    · exact ⟨cy, q10 y cy q hy, rfl, rfl, rfl⟩
  · obtain ⟨D3, cf, k, i, f, g1, g2, g3, g4, g5, g6, g7⟩ := F
    cases hD.symm.trans g1
    simp only [RoadKit.slotOf, g2, gV, gC, Option.map_some, Option.getD_some] at n1 n2
    exact ⟨E', cf, k, i, f, q1.1, g2, g3, by rw [q2.1]; exact g4, by rw [q2.1]; exact g5, by rw [q2.2.1]; exact g6, by rw [q2.2.2 f.slot (by simp [n1, n2])]; exact g7⟩
end StrChars.Road
namespace StrChars.Road
open Jvm Sem ClassFile Op Lib Jvm.Stand Jvm.Free Jvm.Free.XT
/-- WHAT COMES BACK, the byte[] as a list of values -/
def QA (Z : State) (x : Addr) (zn : Int32) (cs : List Int32) (h : Heap) (v : Option Value) (h' : Heap) (L : List Loc) : Prop := v = none ∧ (∀ y ∈ L, y.base = x) ∧ RoadKit.Keep h h' [x] ∧ h'.size = h.size + 1 ∧ RoadKit.Exa Z h' x ST ∧ RoadKit.Fld Z h' x ST "value" "[B" (.ref h.size) ∧ RoadKit.Fld Z h' x ST "coder" "B" (.int 0) ∧
  (∃ kb, Z.vm.findClass "[B" = some kb ∧ RoadKit.Arv Z h' h.size kb .byte zn (cs.map fun c => .int (lo8 c)) (.int 0)) ∧
  ∀ (O n d : String) (w : Value), RoadKit.Fld Z h x O n d w → RoadKit.slotOf Z O n d ≠ RoadKit.slotOf Z ST "value" "[B" → RoadKit.slotOf Z O n d ≠ RoadKit.slotOf Z ST "coder" "B" → RoadKit.Fld Z h' x O n d w
/-- **new String(chars) AT A CALL, THE ARRAYS AS LISTS**: the char[] at b holds cs, not empty, no char above 255 -/
theorem backArv {p : Program} {l : Launch} {e : Env} {R : Room} {s : State} {args : Array Value} {below : List Frame} {len W : Nat} {Z : State} {a0 : Array Value} {h : Heap} (hZ : Z.Warmed39 s.vm) (hw : ∀ d ∈ words, d.before a0 Z = true) {kI : Nat} (wi : (Jvm.Cond.instantiable ST kI).before a0 Z = true)
    {x b : Addr} {k : ClassId} {zn z : Int32} {cs : List Int32} {dv v0 c0 : Value} (E : RoadKit.Exa Z h x ST) (V : RoadKit.Fld Z h x ST "value" "[B" v0) (C : RoadKit.Fld Z h x ST "coder" "B" c0) (K : RoadKit.Arv Z h b k .char zn (cs.map Value.int) dv) (S : RoadKit.Sta Z h ST "COMPACT_STRINGS" "Z" (.int z)) (hz : ¬ z = 0)
    (hlen : zn.toNatClampNeg = cs.length) (h0 : 0 < cs.length) (hbig : cs.length ≤ 536870912) (hall : ∀ c ∈ cs, ¬ 255 < c) (hfr : 4 ≤ R.frames) (hlo : W + 65 ≤ R.locals) :
    Back l R p e below s args New1.yN len W (fun P a => a = #[.ref x, .ref b] ∧ P.U.heap = h ∧ P.cells + 1 ≤ R.cells ∧ P.slots + cs.length ≤ R.slots)
      (fun P _ v B => ∃ L, QA Z x zn cs h v B.U.heap L ∧ B.locs = P.locs ++ L ∧ B.cells = P.cells + 1 ∧ B.slots = P.slots + cs.length) := by
  obtain ⟨A, K1, K2, K3, K4, K5, K6⟩ := K
  have e : A.slots.size = cs.length := K3.trans hlen
  have hat : ∀ (i : Nat) (hi : i < cs.length), A.slots[i]? = some (.int cs[i]) := fun i hi => by rw [K5 i (by omega)]; simp [List.getD_eq_getElem?_getD, hi]
  have hcv : ∀ (i : Nat) (hi : i < cs.length), cv A i = cs[i] := fun i hi => by unfold cv; rw [hat i hi]
  have hty : Typed .char A := fun i v hv => by
    have hi : i < A.slots.size := (Array.getElem?_eq_some_iff.mp hv).1
    have q := K5 i hi
    rw [hv] at q
    rw [Option.some.inj q]
    exact K6 i hi
  refine Back.mono (back hZ hw wi E V C K1 hty S hz (by omega) (by omega) (fun i hi => by rw [hcv i (by omega)]; exact hall _ (List.getElem_mem _)) hfr hlo) (fun P a hp => ⟨hp.1, hp.2.1, hp.2.2.1, by rw [e]; exact hp.2.2.2⟩) (fun P a v B hp hq => ?_)
  obtain ⟨L, ⟨q1, q2, q3, q4, q5, q6, q7, ⟨V', v1, v2, v3, v4, v5⟩, q9⟩, hl, hc, hs⟩ := hq
  refine ⟨L, ⟨q1, q2, q3, q4, q5, q6, q7, ⟨V'.cls, v3, V', v1, rfl, by rw [v4, e, hlen], K4, fun i hi => ?_, fun i hi => ?_⟩, q9⟩, hl, hc, by rw [hs, e]⟩
  · have hi' : i < cs.length := by omega
    rw [v5 i (by omega), hcv i hi']; simp [List.getD_eq_getElem?_getD, hi']
  · have hi' : i < cs.length := by omega
    simp only [List.getD_eq_getElem?_getD, List.getElem?_map, List.getElem?_eq_getElem hi', Option.map_some, Option.getD_some]
    exact fits_lo8 _
end StrChars.Road
namespace StrChars.Road
open Jvm Sem ClassFile Op Lib Jvm.Stand Jvm.Free Jvm.Free.XT
/-- WHAT COMES BACK, in the writer's own shape -/
def QV (Z : State) (x : Addr) (N : Int32) (bs : List Int32) (h : Heap) (n0 : Nat) (v : Option Value) (h' : Heap) (L : List Loc) : Prop := v = none ∧ RoadKit.Fr n0 L ∧ RoadKit.Keep h h' [x] ∧ RoadKit.Exa Z h' x ST ∧ RoadKit.Fld Z h' x ST "coder" "B" (.int 0) ∧
  ∃ (t : Addr) (kb : ClassId), n0 ≤ t ∧ h.size ≤ t ∧ ¬ t = x ∧ RoadKit.Fld Z h' x ST "value" "[B" (.ref t) ∧ RoadKit.Arv Z h' t kb .byte N (bs.map Value.int) (.int 0)
/-- **new String(chars) AT A CALL, FOR THE WRITER**: a char[] of n known ints, each 0 to 255 -/
theorem backV {p : Program} {l : Launch} {e : Env} {R : Room} {s : State} {args : Array Value} {below : List Frame} {len W : Nat} {Z : State} {a0 : Array Value} {h : Heap} (hZ : Z.Warmed39 s.vm) (hw : ∀ d ∈ words, d.before a0 Z = true) {kI : Nat} (wi : (Jvm.Cond.instantiable ST kI).before a0 Z = true)
    {x b : Addr} {kC : ClassId} {cs bs : List Int32} {d v0 c0 : Value} {z N : Int32} {n n0 : Nat} (hx0 : n0 ≤ x) (hh0 : n0 ≤ h.size) (E : RoadKit.Exa Z h x ST) (V : RoadKit.Fld Z h x ST "value" "[B" v0) (C : RoadKit.Fld Z h x ST "coder" "B" c0) (K : RoadKit.Arv Z h b kC .char N (cs.map Value.int) d) (S : RoadKit.Sta Z h ST "COMPACT_STRINGS" "Z" (.int z)) (hz : ¬ z = 0)
    (hn : cs.length = n) (hN : N = Int32.ofNat n) (l0 : 0 < n) (l2 : n ≤ 4000) (hp : ∀ c ∈ cs, ¬ c < 0 ∧ ¬ (255 : Int32) < c) (hb : bs = cs.map (fun c => c.toInt8.toInt32)) (hfr : 4 ≤ R.frames) (hlo : W + 65 ≤ R.locals) :
    Back l R p e below s args (⟨"java/lang/String", "<init>", "([C)V"⟩ : MethodName) len W (fun P a => a = #[.ref x, .ref b] ∧ P.U.heap = h ∧ P.cells + 1 ≤ R.cells ∧ P.slots + n ≤ R.slots)
      (fun P _ v B => ∃ L, QV Z x N bs h n0 v B.U.heap L ∧ B.locs = P.locs ++ L ∧ B.cells = P.cells + 1 ∧ B.slots = P.slots + n) := by
  subst hn hN hb
  refine Back.mono (backArv hZ hw wi E V C K S hz (n32 (by omega)) l0 (by omega) (fun c hc => (hp c hc).2) hfr hlo) (fun P a hp => hp) (fun P a v B hp hq => ?_)
  obtain ⟨L, ⟨q1, q2, q3, q4, q5, q6, q7, ⟨kb, v1, v2⟩, q9⟩, hl, hc, hs⟩ := hq
  exact ⟨L, ⟨q1, fun y hy => by rw [q2 y hy]; exact hx0, q3, q5, q7, h.size, kb, hh0, Nat.le_refl _, Nat.ne_of_gt E.lt, q6, by rw [List.map_map]; exact v2⟩, hl, hc, hs⟩
end StrChars.Road
namespace StrChars
open Jvm Sem ClassFile Op Lib Jvm.Stand Jvm.Free.XT Jvm.Free.ALB Jvm.Free.JM Jvm.Free
open Jvm.Lib.Cold (StaticIs)
def hi8 (x : Int32) : Int32 := lo8 (x >>> ((8 : Int32) &&& 31))
/-- what StringUTF16.getChar makes of two bytes -/
def pairCh (u v : Int32) : Int32 := (((u &&& 255) <<< ((0 : Int32) &&& 31)) ||| ((v &&& 255) <<< ((8 : Int32) &&& 31))).toUInt32.toUInt16.toUInt32.toInt32
theorem lo8_and (x : Int32) : (lo8 x &&& 255).toBitVec.toNat = x.toBitVec.toNat % 256 := by
  have h : (lo8 x).toBitVec = (x.toBitVec.signExtend 8).signExtend 32 := by rw [lo8, Int8.toBitVec_toInt32, Int32.toBitVec_toInt8]
  rw [Int32.toBitVec_and, BitVec.toNat_and, h]
  have e : ((x.toBitVec.signExtend 8).signExtend 32).toNat % 256 = x.toBitVec.toNat % 256 := by
    rw [BitVec.toNat_signExtend]
    have hlt := x.toBitVec.isLt
    simp only [BitVec.toNat_setWidth, BitVec.toNat_signExtend]
    split <;> split <;> omega
  rw [← e]
  exact Nat.and_two_pow_sub_one_eq_mod _ 8
theorem pair_says {c : Int32} (h0 : ¬ c < 0) (h1 : ¬ 65535 < c) : pairCh (lo8 c) (hi8 c) = c := by
  rw [Int32.lt_iff_toInt_lt] at h0 h1
  have e0 : (0 : Int32).toInt = 0 := rfl
  have e1 : (65535 : Int32).toInt = 65535 := rfl
  have hc : c.toInt = c.toBitVec.toNat := by
    have := c.toBitVec.isLt
    have e : c.toInt = c.toBitVec.toInt := rfl
    rw [e] at h0 h1
    rw [e]
    rw [BitVec.toInt_eq_toNat_cond] at h0 h1 ⊢
    split at h0 <;> split <;> omega
  have hn : c.toBitVec.toNat < 65536 := by omega
  have a1 := lo8_and c
  have a2 : (hi8 c &&& 255).toBitVec.toNat = c.toBitVec.toNat / 256 := by
    rw [hi8, lo8_and]
    have e : ((8 : Int32) &&& 31) = 8 := by decide
    rw [e, Int32.toBitVec_shiftRight]
    have e2 : ((8 : Int32).toBitVec.smod 32) = 8#32 := by decide
    rw [e2, BitVec.sshiftRight_eq', BitVec.toNat_sshiftRight_of_msb_false (by rw [BitVec.msb_eq_false_iff_two_mul_lt]; omega)]
    show c.toBitVec.toNat >>> 8 % 256 = _
    rw [Nat.shiftRight_eq_div_pow]
    omega
  unfold pairCh
  apply Int32.toBitVec_inj.mp
  apply BitVec.eq_of_toNat_eq
  have f0 : ((0 : Int32) &&& 31) = 0 := by decide
  have f8 : ((8 : Int32) &&& 31) = 8 := by decide
  rw [f0, f8]
  have g : (((lo8 c &&& 255) <<< (0 : Int32)) ||| ((hi8 c &&& 255) <<< (8 : Int32))).toBitVec.toNat = c.toBitVec.toNat := by
    rw [Int32.toBitVec_or, Int32.toBitVec_shiftLeft, Int32.toBitVec_shiftLeft]
    have s0 : ((0 : Int32).toBitVec.smod 32) = 0#32 := by decide
    have s8 : ((8 : Int32).toBitVec.smod 32) = 8#32 := by decide
    rw [s0, s8, BitVec.toNat_or]
    simp only [BitVec.shiftLeft_eq', BitVec.toNat_shiftLeft, a1, a2]
    show (c.toBitVec.toNat % 256) <<< 0 % 2 ^ 32 ||| (c.toBitVec.toNat / 256) <<< 8 % 2 ^ 32 = _
    rw [Nat.shiftLeft_zero, Nat.mod_eq_of_lt (show c.toBitVec.toNat % 256 < 2 ^ 32 by omega), Nat.mod_eq_of_lt (show (c.toBitVec.toNat / 256) <<< 8 < 2 ^ 32 by rw [Nat.shiftLeft_eq]; omega), Nat.or_comm, ← Nat.shiftLeft_add_eq_or_of_lt (by omega), Nat.shiftLeft_eq]
    omega
  show BitVec.toNat (((((lo8 c &&& 255) <<< (0 : Int32)) ||| ((hi8 c &&& 255) <<< (8 : Int32))).toBitVec.setWidth 16).setWidth 32) = _
  rw [BitVec.toNat_setWidth, BitVec.toNat_setWidth, g]
  omega
end StrChars
namespace StrChars
open Jvm Sem ClassFile Op Lib Jvm.Stand Jvm.Free.XT Jvm.Free.ALB Jvm.Free.JM Jvm.Free
open Jvm.Lib.Cold (StaticIs)
/-- the array's cell V codes the n chars f 0 .. f (n - 1) by the coder cd, as the JDK does: coder 1 just where some char is above 255 -/
def Cod (cd : Int32) (n : Nat) (f : Nat → Int32) (V : Cell) : Prop := (cd = 0 ∧ V.slots.size = n ∧ ∀ j, j < n → V.slots[j]? = some (.int (lo8 (f j))) ∧ ¬ 255 < f j) ∨ (cd = 1 ∧ V.slots.size = 2 * n ∧ (∀ j, j < n → V.slots[2 * j]? = some (.int (lo8 (f j))) ∧ V.slots[2 * j + 1]? = some (.int (hi8 (f j)))) ∧ ∃ j, j < n ∧ 255 < f j)
/-- **x is a String of the n chars f 0 .. f (n - 1)**, Latin-1 or UTF-16; its array at t has the cell V -/
def Txt (x t : Addr) (V : Cell) (cd : Int32) (n : Nat) (f : Nat → Int32) (U : State) : Prop := Exact "java/lang/String" x U ∧ Has x "java/lang/String" "value" "[B" (.ref t) U ∧ Has x "java/lang/String" "coder" "B" (.int cd) U ∧ XT.Arr .byte t V U ∧ Cod cd n f V ∧ ∀ j, j < n → ¬ f j < 0 ∧ ¬ 65535 < f j
theorem Txt.mv {x t : Addr} {V : Cell} {cd : Int32} {n : Nat} {f : Nat → Int32} {U U' : State} (h : Txt x t V cd n f U) (hal : U.vm.Alike U'.vm) (hh : U'.heap = U.heap) : Txt x t V cd n f U' := ⟨h.1.mv hal hh, h.2.1.mv hal hh, h.2.2.1.mv hal hh, h.2.2.2.1.mv hal hh, h.2.2.2.2⟩
end StrChars
namespace StrChars.Road
open Jvm Sem ClassFile Op Lib Jvm.Stand Jvm.Free Jvm.Free.XT
open Jvm.Lib.Cold (StaticIs)
theorem consq {a : Array Value} {s : State} {c : Jvm.Cond} {L : List Jvm.Cond} (h0 : c.before a s = true) (h : ∀ w ∈ L, w.before a s = true) : ∀ w ∈ c :: L, w.before a s = true := fun w hw => (List.mem_cons.mp hw).elim (fun e => e ▸ h0) (h w)
/-- the bytes of the chars cs, low before high -/
def wideBytes : List Int32 → List Value
  | [] => []
  | c :: cs => .int (lo8 c) :: .int (hi8 c) :: wideBytes cs
theorem wide_lo (d : Value) : ∀ (cs : List Int32) (j : Nat), j < cs.length → (wideBytes cs).getD (2 * j) d = .int (lo8 (cs.getD j 0))
  | [], j, h => absurd h (Nat.not_lt_zero j)
  | c :: cs, 0, _ => rfl
  | c :: cs, j + 1, h => by
    have q := wide_lo d cs j (by simpa using h)
    rw [show 2 * (j + 1) = 2 * j + 1 + 1 from by omega]
    simpa [wideBytes] using q
theorem wide_hi (d : Value) : ∀ (cs : List Int32) (j : Nat), j < cs.length → (wideBytes cs).getD (2 * j + 1) d = .int (hi8 (cs.getD j 0))
  | [], j, h => absurd h (Nat.not_lt_zero j)
  | c :: cs, 0, _ => rfl
  | c :: cs, j + 1, h => by
    have q := wide_hi d cs j (by simpa using h)
    rw [show 2 * (j + 1) + 1 = 2 * j + 1 + 1 + 1 from by omega]
    simpa [wideBytes] using q
theorem low_at (d : Value) (cs : List Int32) (j : Nat) (h : j < cs.length) : (cs.map fun c => Value.int (lo8 c)).getD j d = .int (lo8 (cs.getD j 0)) := by
  simp [List.getD_eq_getElem?_getD, h]
/-- an array of N2 bytes vs codes the chars cs by the coder cd -/
def CodA (cs : List Int32) (cd N2 : Int32) (vs : List Value) : Prop := (cd = 0 ∧ N2 = Int32.ofNat cs.length ∧ vs = (cs.map fun c => Value.int (lo8 c)) ∧ ∀ c ∈ cs, ¬ 255 < c) ∨ (cd = 1 ∧ N2 = Int32.ofNat (2 * cs.length) ∧ vs = wideBytes cs ∧ ∃ c ∈ cs, 255 < c)
theorem CodA.cod {cs : List Int32} {cd N2 : Int32} {vs : List Value} {V : Cell} (h : CodA cs cd N2 vs) (hn : 2 * cs.length < 2 ^ 31) (hs : V.slots.size = N2.toNatClampNeg) (hv : RoadKit.Has V vs (.int 0)) : Cod cd cs.length (fun j => cs.getD j 0) V := by
  rcases h with ⟨rfl, rfl, rfl, h⟩ | ⟨rfl, rfl, rfl, c, hc, hw⟩
  · rw [n32 (by omega)] at hs
    exact Or.inl ⟨rfl, hs, fun j hj => ⟨by rw [hv j (by omega), low_at _ _ _ hj], by
      have e : cs.getD j 0 = cs[j] := by simp [List.getD_eq_getElem?_getD, hj]
      show ¬ 255 < cs.getD j 0
      rw [e]; exact h _ (List.getElem_mem _)⟩⟩
  · rw [n32 (by omega)] at hs
    obtain ⟨j, hj, rfl⟩ := List.getElem_of_mem hc
    exact Or.inr ⟨rfl, hs, fun j hj => ⟨by rw [hv _ (by omega), wide_lo _ _ _ hj], by rw [hv _ (by omega), wide_hi _ _ _ hj]⟩, j, hj, by
      have e : cs.getD j 0 = cs[j] := by simp [List.getD_eq_getElem?_getD, hj]
      show 255 < cs.getD j 0
      rw [e]; exact hw⟩
/-- an object of exactly java/lang/String, its two fields found: as the laws ask it -/
theorem strObj {Z U : State} {a0 : Array Value} {kI : Nat} (wi : (Jvm.Cond.instantiable ST kI).before a0 Z = true) (al : Z.vm.Alike U.vm) {x : Addr} {v0 c0 : Value} (E : RoadKit.Exa Z U.heap x ST) (V : RoadKit.Fld Z U.heap x ST "value" "[B" v0) (C : RoadKit.Fld Z U.heap x ST "coder" "B" c0) :
    ∃ (D : Cell) (fV fC : Field), Blank ST x D U ∧ Found ST "value" "[B" fV U ∧ Found ST "coder" "B" fC U ∧ D.slots[fV.slot]? = some v0 ∧ D.slots[fC.slot]? = some c0 ∧ RoadKit.slotOf Z ST "value" "[B" = fV.slot ∧ RoadKit.slotOf Z ST "coder" "B" = fC.slot := by
  obtain ⟨D, cfV, kV, iV, fV, hD, gV, stV, knV, obV, asV, slV⟩ := V
  obtain ⟨D', cfC, kC, iC, fC, hD', gC, stC, -, -, asC, slC⟩ := C
  cases hD.symm.trans hD'
  obtain ⟨D2, kD, e1, e2, e3, e4, e5⟩ := E
  cases hD.symm.trans e1
  obtain ⟨c2, k2, i1, i2, i3, -⟩ := Cond.instantiable_spec wi
  cases e2.symm.trans i1
  cases e3.symm.trans i2
  obtain ⟨kU, u1, u2⟩ := al.2.2 _ _ e3
  exact ⟨D, fV, fC, ⟨hD, ⟨knV, fun q hq => by rw [hq] at obV; cases obV⟩, by rw [al.findClass]; exact e2, kU, u1, by rw [u2]; exact i3, by rw [u2]; exact e5 i3⟩, ⟨SBG.found_only al ⟨cfV, kV, iV, gV⟩, stV⟩, ⟨SBG.found_only al ⟨cfC, kC, iC, gC⟩, stC⟩, slV, slC, by simp [RoadKit.slotOf, gV], by simp [RoadKit.slotOf, gC]⟩
theorem sta_is {Z U : State} (al : Z.vm.Alike U.vm) {C n d : String} {v : Value} (S : RoadKit.Sta Z U.heap C n d v) : StaticIs U C n d v := by
  obtain ⟨cfS, iS, kS, fS, st, cS, t1, t2, t3, t4, t5, t6, t7⟩ := S
  exact StaticIs.there (s := { Z with heap := U.heap }) ⟨cfS, iS, kS, fS, st, cS, t1, t2, t3, t4, t5, (fun q => by rw [q] at t6; cases t6), t7⟩ al rfl
end StrChars.Road
namespace StrChars
open Jvm Sem ClassFile Op Lib Jvm.Stand Jvm.Free.XT Jvm.Free.ALB Jvm.Free.JM Jvm.Free
open Jvm.Lib.Cold (StaticIs)
/-- what place i of a byte[]'s cell holds -/
def yv (A : Cell) (i : Nat) : Int32 := match A.slots[i]? with | some (.int x) => x | _ => 0
theorem yv_get {a : Addr} {A : Cell} {U : State} (h : XT.Arr .byte a A U) (ht : Typed .byte A) {i : Nat} (hi : i < A.slots.size) : A.slots[i]? = some (.int (yv A i)) := by
  have e := Array.getElem?_eq_getElem hi
  have f := ht i _ e
  unfold yv; rw [e]
  generalize A.slots[i] = v at f
  cases v <;> simp [fits] at f ⊢
/-- the two arrays are equal, place for place -/
def EqC (A B : Cell) : Prop := A.slots.size = B.slots.size ∧ ∀ i, i < A.slots.size → yv A i = yv B i
/-- a boolean that says whether p -/
def Says01 (q : Prop) (r : Option Value) (s u : State) : Prop := ∃ v : Int32, r = some (.int v) ∧ u.heap = s.heap ∧ ((v = 1 ∧ q) ∨ (v = 0 ∧ ¬ q))
theorem Says01.mv {q : Prop} : ∀ r (U U' V V' : State), U'.heap = U.heap → V.vm.Alike V'.vm → V'.heap = V.heap → Says01 q r U V → Says01 q r U' V' :=
  fun r U U' V V' h1 _ h2 ⟨v, a, b, c⟩ => ⟨v, a, by rw [h1, h2]; exact b, c⟩
namespace LEq
def yN : MethodName := ⟨"java/lang/StringLatin1", "equals", "([B[B)Z"⟩
abbrev yB : ByteArray := jdk_43_method_13_code
theorem d0 : decode yB 0 = .ok (.aload_n 0, 1) := by decide +kernel
theorem d1 : decode yB 1 = .ok (.arraylength, 1) := by decide +kernel
theorem d2 : decode yB 2 = .ok (.aload_n 1, 1) := by decide +kernel
theorem d3 : decode yB 3 = .ok (.arraylength, 1) := by decide +kernel
theorem d4 : decode yB 4 = .ok (.if_icmp (.ne) 30, 3) := by decide +kernel
theorem d7 : decode yB 7 = .ok (.iconst 0, 1) := by decide +kernel
theorem d8 : decode yB 8 = .ok (.istore_n 2, 1) := by decide +kernel
theorem d9 : decode yB 9 = .ok (.iload_n 2, 1) := by decide +kernel
theorem d10 : decode yB 10 = .ok (.aload_n 0, 1) := by decide +kernel
theorem d11 : decode yB 11 = .ok (.arraylength, 1) := by decide +kernel
theorem d12 : decode yB 12 = .ok (.if_icmp (.ge) 20, 3) := by decide +kernel
theorem d15 : decode yB 15 = .ok (.aload_n 0, 1) := by decide +kernel
theorem d16 : decode yB 16 = .ok (.iload_n 2, 1) := by decide +kernel
theorem d17 : decode yB 17 = .ok (.baload, 1) := by decide +kernel
theorem d18 : decode yB 18 = .ok (.aload_n 1, 1) := by decide +kernel
theorem d19 : decode yB 19 = .ok (.iload_n 2, 1) := by decide +kernel
theorem d20 : decode yB 20 = .ok (.baload, 1) := by decide +kernel
theorem d21 : decode yB 21 = .ok (.if_icmp (.eq) 5, 3) := by decide +kernel
theorem d24 : decode yB 24 = .ok (.iconst 0, 1) := by decide +kernel
theorem d25 : decode yB 25 = .ok (.ireturn, 1) := by decide +kernel
theorem d26 : decode yB 26 = .ok (.iinc 2 1, 3) := by decide +kernel
theorem d29 : decode yB 29 = .ok (.goto (-20), 3) := by decide +kernel
theorem d32 : decode yB 32 = .ok (.iconst 1, 1) := by decide +kernel
theorem d33 : decode yB 33 = .ok (.ireturn, 1) := by decide +kernel
theorem d34 : decode yB 34 = .ok (.iconst 0, 1) := by decide +kernel
theorem d35 : decode yB 35 = .ok (.ireturn, 1) := by decide +kernel
def site : List Cond := []
def tab : Cond := tabOf yN yB 3 (some .boolean) site
def P (a : Addr) (A : Cell) (b : Addr) (B : Cell) (args : Array Value) (s : State) : Prop := args = #[.ref a, .ref b] ∧ XT.Arr .byte a A s ∧ Typed .byte A ∧ XT.Arr .byte b B s ∧ Typed .byte B
/-- whether two byte[] are equal, place for place -/
theorem law (l : Launch) (a : Addr) (A : Cell) (b : Addr) (B : Cell) : Law l yN 2 2 0 0 yB 3 (some .boolean) site (P a A b B) (Says01 (EqC A B)) [] 0 0 := by
  refine Law.of_walk (plainFor_of_name (by decide +kernel)) (by decide +kernel) (by decide +kernel) (by decide) (fun _ _ h => by rw [h.1]; rfl) (fun _ U U' hal hh h => ⟨h.1, h.2.1.mv hal hh, h.2.2.1, h.2.2.2.1.mv hal hh, h.2.2.2.2⟩) (fun r U U' V V' h1 hal h2 h => Says01.mv r U U' V V' h1 hal h2 h) ?_
  intro p e s m args below meth c s₁ X0 hexec hbytes hml hret hlk hnm hown hh0 W hP
  obtain ⟨rfl, hA, tA, hB, tB⟩ := hP
  have a31 := hA.2.2.2
  have b31 := hB.2.2.2
  have hA0 := hA.mv X0.warmed.alike hh0
  have hB0 := hB.mv X0.warmed.alike hh0
  have c1 : Steps p.tables e below (s₁.setTop (entryFrame m #[.ref a, .ref b] 3)) (s₁.setTop (mkF m 0 #[.val (.ref a), .val (.ref b), .unset] [])) := entry rfl
  have c2 : Steps p.tables e below (s₁.setTop (entryFrame m #[.ref a, .ref b] 3)) (s₁.setTop (mkF m 4 #[.val (.ref a), .val (.ref b), .unset] [.int (Int32.ofNat B.slots.size), .int (Int32.ofNat A.slots.size)])) := c1.trans (by
    refine XS.aloadN X0.here hexec rfl (hb hbytes d0) rfl rfl ?_
    refine X0.alen hexec hA0 rfl rfl (hb hbytes d1) ?_
    refine XS.aloadN X0.here hexec rfl (hb hbytes d2) rfl rfl ?_
    refine X0.alen hexec hB0 rfl rfl (hb hbytes d3) ?_
    exact Steps.refl _)
  by_cases hs : A.slots.size = B.slots.size
  · have c3 : Steps p.tables e below (s₁.setTop (entryFrame m #[.ref a, .ref b] 3)) (s₁.setTop (mkF m 9 #[.val (.ref a), .val (.ref b), .val (.int 0)] [])) := c2.trans (by
      refine XS.icmpNo X0.here hexec rfl (hb hbytes d4) rfl (ii_ne_f (by rw [hs])) ?_
      refine iconstV X0.here hexec rfl 0 (hb hbytes d7) (by decide) ?_
      refine XS.istoreN X0.here hexec rfl (hb hbytes d8) rfl rfl ?_
      exact Steps.refl _)
    have loop : ∀ (r i : Nat), i + r = A.slots.size → (∀ j, j < i → yv A j = yv B j) → Steps p.tables e below (s₁.setTop (entryFrame m #[.ref a, .ref b] 3)) (s₁.setTop (mkF m 9 #[.val (.ref a), .val (.ref b), .val (.int (Int32.ofNat i))] [])) → ∃ (pc : Nat) (Ls : Array Slot) (v : Int32), (pc = 25 ∨ pc = 33) ∧ ((v = 1 ∧ EqC A B) ∨ (v = 0 ∧ ¬ EqC A B)) ∧ Steps p.tables e below (s₁.setTop (entryFrame m #[.ref a, .ref b] 3)) (s₁.setTop (mkF m pc Ls [.int v])) := by
      intro r
      induction r with
      | zero =>
        intro i hi he cl
        exact ⟨33, _, 1, Or.inr rfl, Or.inl ⟨rfl, hs, fun j hj => he j (by omega)⟩, cl.trans (by
          refine XS.iloadN X0.here hexec rfl (hb hbytes d9) rfl ?_
          refine XS.aloadN X0.here hexec rfl (hb hbytes d10) rfl rfl ?_
          refine X0.alen hexec hA0 rfl rfl (hb hbytes d11) ?_
          refine XS.icmpYes X0.here hexec rfl (pc0 := 12) rfl (hb hbytes d12) rfl (ii_ge_t (nlt32 (by omega) (by omega))) (by decide) rfl ?_
          refine iconstV X0.here hexec rfl 1 (hb hbytes d32) (by decide) ?_
          exact Steps.refl _)⟩
      | succ r ih =>
        intro i hi he cl
        have c4 : Steps p.tables e below (s₁.setTop (entryFrame m #[.ref a, .ref b] 3)) (s₁.setTop (mkF m 21 #[.val (.ref a), .val (.ref b), .val (.int (Int32.ofNat i))] [.int (yv B i), .int (yv A i)])) := cl.trans (by
          refine XS.iloadN X0.here hexec rfl (hb hbytes d9) rfl ?_
          refine XS.aloadN X0.here hexec rfl (hb hbytes d10) rfl rfl ?_
          refine X0.alen hexec hA0 rfl rfl (hb hbytes d11) ?_
          refine XS.icmpNo X0.here hexec rfl (hb hbytes d12) rfl (ii_ge_f (lt32 (by omega) (by omega))) ?_
          refine XS.aloadN X0.here hexec rfl (hb hbytes d15) rfl rfl ?_
          refine XS.iloadN X0.here hexec rfl (hb hbytes d16) rfl ?_
          refine X0.aget hexec hA0 rfl (yv_get hA tA (i := i) (by omega)) rfl rfl (hb hbytes d17) ?_
          refine XS.aloadN X0.here hexec rfl (hb hbytes d18) rfl rfl ?_
          refine XS.iloadN X0.here hexec rfl (hb hbytes d19) rfl ?_
          refine X0.aget hexec hB0 rfl (yv_get hB tB (i := i) (by omega)) rfl rfl (hb hbytes d20) ?_
          exact Steps.refl _)
        by_cases hv : yv A i = yv B i
        · have c5 : Steps p.tables e below (s₁.setTop (entryFrame m #[.ref a, .ref b] 3)) (s₁.setTop (mkF m 9 #[.val (.ref a), .val (.ref b), .val (.int (Int32.ofNat i + 1))] [])) := c4.trans (by
            refine XS.icmpYes X0.here hexec rfl (pc0 := 21) rfl (hb hbytes d21) rfl (ii_eq_t hv) (by decide) rfl ?_
            refine iincV X0.here hexec rfl 1 (hb hbytes d26) (by decide) rfl rfl ?_
            refine XS.goto X0.here hexec rfl (pc0 := 29) rfl (hb hbytes d29) (by decide) rfl ?_
            exact Steps.refl _)
          rw [succ32] at c5
          exact ih (i + 1) (by omega) (fun j hj => by
            by_cases e : j = i
            · rw [e]; exact hv
            · exact he j (by omega)) c5
        · exact ⟨25, _, 0, Or.inl rfl, Or.inr ⟨rfl, fun q => hv (q.2 i (by omega))⟩, c4.trans (by
            refine XS.icmpNo X0.here hexec rfl (hb hbytes d21) rfl (ii_eq_f hv) ?_
            refine iconstV X0.here hexec rfl 0 (hb hbytes d24) (by decide) ?_
            exact Steps.refl _)⟩
    obtain ⟨pc, Ls, v, hpc, hv, cz⟩ := loop A.slots.size 0 (by omega) (fun j hj => absurd hj (Nat.not_lt_zero j)) c3
    have nv : narrow .boolean (.int v) = .int v := by rcases hv with ⟨rfl, -⟩ | ⟨rfl, -⟩ <;> rfl
    rcases hpc with rfl | rfl
    · exact ⟨s₁, some (.int v), _, _, _, X0, rfl, rfl, rfl, (fun h => by cases h), ⟨v, rfl, hh0, hv⟩, fun fs hl => cz.trans (X0.ireturnOut hexec hret nv (Or.inr (Or.inl rfl)) (hb hbytes d25) hl)⟩
    · exact ⟨s₁, some (.int v), _, _, _, X0, rfl, rfl, rfl, (fun h => by cases h), ⟨v, rfl, hh0, hv⟩, fun fs hl => cz.trans (X0.ireturnOut hexec hret nv (Or.inr (Or.inl rfl)) (hb hbytes d33) hl)⟩
  · have c3 : Steps p.tables e below (s₁.setTop (entryFrame m #[.ref a, .ref b] 3)) (s₁.setTop (mkF m 35 #[.val (.ref a), .val (.ref b), .unset] [.int 0])) := c2.trans (by
      refine XS.icmpYes X0.here hexec rfl (pc0 := 4) rfl (hb hbytes d4) rfl (ii_ne_t (ne32 a31 b31 hs)) (by decide) rfl ?_
      refine iconstV X0.here hexec rfl 0 (hb hbytes d34) (by decide) ?_
      exact Steps.refl _)
    exact ⟨s₁, some (.int 0), _, _, _, X0, rfl, rfl, rfl, (fun h => by cases h), ⟨0, rfl, hh0, Or.inr ⟨rfl, fun q => hs q.1⟩⟩, fun fs hl => c3.trans (X0.ireturnOut hexec hret rfl (Or.inr (Or.inl rfl)) (hb hbytes d35) hl)⟩
end LEq
theorem Cod.ty {cd : Int32} {n : Nat} {f : Nat → Int32} {V : Cell} (h : Cod cd n f V) : Typed .byte V := fun i v hv => by
  have hi : i < V.slots.size := (Array.getElem?_eq_some_iff.mp hv).1
  rcases h with ⟨-, k1, k2⟩ | ⟨-, k1, k2, -⟩
  · rw [(k2 i (by omega)).1] at hv; cases hv; exact fits_lo8 _
  · rcases Nat.mod_two_eq_zero_or_one i with e | e
    · obtain ⟨j, rfl⟩ : ∃ j, i = 2 * j := ⟨i / 2, by omega⟩
      rw [(k2 j (by omega)).1] at hv; cases hv; exact fits_lo8 _
    · obtain ⟨j, rfl⟩ : ∃ j, i = 2 * j + 1 := ⟨i / 2, by omega⟩
      rw [(k2 j (by omega)).2] at hv; cases hv; exact fits_lo8 _
/-- the same text -/
def SameT (n : Nat) (f : Nat → Int32) (k : Nat) (g : Nat → Int32) : Prop := n = k ∧ ∀ j, j < n → f j = g j
theorem lo8_inj {x y : Int32} (h0 : ¬ x < 0) (h1 : ¬ 255 < x) (k0 : ¬ y < 0) (k1 : ¬ 255 < y) (h : lo8 x = lo8 y) : x = y := by
  rw [← lo8_mask h0 h1, ← lo8_mask k0 k1, h]
/-- arrays coded by one coder are equal just where the texts are -/
theorem Cod.eqv {cd : Int32} {n k : Nat} {f g : Nat → Int32} {V V' : Cell} (h : Cod cd n f V) (h' : Cod cd k g V') (hf : ∀ j, j < n → ¬ f j < 0 ∧ ¬ 65535 < f j) (hg : ∀ j, j < k → ¬ g j < 0 ∧ ¬ 65535 < g j) : EqC V V' ↔ SameT n f k g := by
  have yvv : ∀ {W : Cell} {i : Nat} {x : Int32}, W.slots[i]? = some (.int x) → yv W i = x := fun q => by unfold yv; rw [q]
  rcases h with ⟨rfl, k1, k2⟩ | ⟨rfl, k1, k2, -⟩
  · rcases h' with ⟨-, m1, m2⟩ | ⟨e, -⟩
    · constructor
      · rintro ⟨e1, e2⟩
        refine ⟨by omega, fun j hj => ?_⟩
        have q := e2 j (by omega)
        rw [yvv (k2 j hj).1, yvv (m2 j (by omega)).1] at q
        exact lo8_inj (hf j hj).1 (k2 j hj).2 (hg j (by omega)).1 (m2 j (by omega)).2 q
      · rintro ⟨rfl, e2⟩
        refine ⟨by omega, fun j hj => ?_⟩
        rw [yvv (k2 j (by omega)).1, yvv (m2 j (by omega)).1, e2 j (by omega)]
    · exact absurd e (by decide)
  · rcases h' with ⟨e, -⟩ | ⟨-, m1, m2, -⟩
    · exact absurd e (by decide)
    · constructor
      · rintro ⟨e1, e2⟩
        refine ⟨by omega, fun j hj => ?_⟩
        have q1 := e2 (2 * j) (by omega)
        have q2 := e2 (2 * j + 1) (by omega)
        rw [yvv (k2 j hj).1, yvv (m2 j (by omega)).1] at q1
        rw [yvv (k2 j hj).2, yvv (m2 j (by omega)).2] at q2
        rw [← pair_says (hf j hj).1 (hf j hj).2, ← pair_says (hg j (by omega)).1 (hg j (by omega)).2, q1, q2]
      · rintro ⟨rfl, e2⟩
        refine ⟨by omega, fun i hi => ?_⟩
        rcases Nat.mod_two_eq_zero_or_one i with e | e
        · obtain ⟨j, rfl⟩ : ∃ j, i = 2 * j := ⟨i / 2, by omega⟩
          rw [yvv (k2 j (by omega)).1, yvv (m2 j (by omega)).1, e2 j (by omega)]
        · obtain ⟨j, rfl⟩ : ∃ j, i = 2 * j + 1 := ⟨i / 2, by omega⟩
          rw [yvv (k2 j (by omega)).2, yvv (m2 j (by omega)).2, e2 j (by omega)]
/-- two codings differ: so do the texts -/
theorem Cod.dif {cd cd' : Int32} {n k : Nat} {f g : Nat → Int32} {V V' : Cell} (h : Cod cd n f V) (h' : Cod cd' k g V') (hne : ¬ cd = cd') : ¬ SameT n f k g := by
  rintro ⟨rfl, e⟩
  rcases h with ⟨rfl, -, k2⟩ | ⟨rfl, -, -, j, hj, hw⟩
  · rcases h' with ⟨rfl, -⟩ | ⟨-, -, -, j, hj, hw⟩
    · exact hne rfl
    · exact (k2 j hj).2 (by rw [e j hj]; exact hw)
  · rcases h' with ⟨-, -, m2⟩ | ⟨rfl, -⟩
    · exact (m2 j hj).2 (by rw [← e j hj]; exact hw)
    · exact hne rfl
/-- an object of exactly C is an instance of C -/
theorem cinst {p : Program} {l : Launch} {e : Env} {R : Room} {s : State} {m : MethodId} {args : Array Value} {below : List Frame} {meth : Method} {c : Code} {T : State} {locs : List Loc} {cells slots : Nat} (X : Stand p l e R s m args below meth c T locs cells slots) (hexec : p.tables.exec = Jvm.exec) {own C : String} {index : Nat} (hown : s.vm.findClass own = some m.cls) (hlink : (Cond.classLink own index C).before args s = true) {a : Addr} (hE : Exact C a T)
    {g : JFrame} (hg : g.method = m) {rest : List Value} (hstack : g.stack = .ref a :: rest) (hdg : decode c.code g.pc = .ok (.instanceof index, 3)) :
    ∃ T', Stand p l e R s m args below meth c T' locs cells slots ∧ T'.heap = T.heap ∧ ∀ target, Steps p.tables e below (T'.setTop { g with pc := g.pc + 3, stack := .int 1 :: rest }) target → Steps p.tables e below (T.setTop g) target := by
  obtain ⟨cB, h1, D, h2, h3, h4⟩ := hE
  have h1' : s.vm.findClass C = some cB := by rw [← X.warmed.alike.findClass]; exact h1
  obtain ⟨vm', X', st⟩ := X.instanceofYes hexec hown hlink h2 h4 h1' (by rw [h3]; exact Jvm.Free.SB.assignable_self _ _) hg hstack hdg
  exact ⟨_, X', rfl, st⟩
theorem cself {p : Program} {l : Launch} {e : Env} {R : Room} {s : State} {m : MethodId} {args : Array Value} {below : List Frame} {meth : Method} {c : Code} {T : State} {locs : List Loc} {cells slots : Nat} (X : Stand p l e R s m args below meth c T locs cells slots) (hexec : p.tables.exec = Jvm.exec) {own C : String} {index : Nat} (hown : s.vm.findClass own = some m.cls) (hlink : (Cond.classLink own index C).before args s = true) {a : Addr} (hE : Exact C a T)
    {g : JFrame} (hg : g.method = m) {rest : List Value} (hstack : g.stack = .ref a :: rest) (hdg : decode c.code g.pc = .ok (.checkcast index, 3)) :
    ∃ T', Stand p l e R s m args below meth c T' locs cells slots ∧ T'.heap = T.heap ∧ ∀ target, Steps p.tables e below (T'.setTop { g with pc := g.pc + 3, stack := .ref a :: rest }) target → Steps p.tables e below (T.setTop g) target := by
  obtain ⟨cB, h1, D, h2, h3, h4⟩ := hE
  have h1' : s.vm.findClass C = some cB := by rw [← X.warmed.alike.findClass]; exact h1
  obtain ⟨vm', X', st⟩ := X.checkcastYes hexec hown hlink h2 h4 h1' (by rw [h3]; exact Jvm.Free.SB.assignable_self _ _) hg hstack hdg
  exact ⟨_, X', rfl, fun t h => st t (by rw [← hstack] at h; exact h)⟩
namespace SEq
def yN : MethodName := ⟨"java/lang/String", "equals", "(Ljava/lang/Object;)Z"⟩
abbrev yB : ByteArray := jdk_42_method_66_code
theorem d0 : decode yB 0 = .ok (.aload_n 0, 1) := by decide +kernel
theorem d1 : decode yB 1 = .ok (.aload_n 1, 1) := by decide +kernel
theorem d2 : decode yB 2 = .ok (.if_acmp (.ne) 5, 3) := by decide +kernel
theorem d5 : decode yB 5 = .ok (.iconst 1, 1) := by decide +kernel
theorem d6 : decode yB 6 = .ok (.ireturn, 1) := by decide +kernel
theorem d7 : decode yB 7 = .ok (.aload_n 1, 1) := by decide +kernel
theorem d8 : decode yB 8 = .ok (.instanceof 10, 3) := by decide +kernel
theorem d11 : decode yB 11 = .ok (.ifCond (.eq) 43, 3) := by decide +kernel
theorem d14 : decode yB 14 = .ok (.aload_n 1, 1) := by decide +kernel
theorem d15 : decode yB 15 = .ok (.checkcast 10, 3) := by decide +kernel
theorem d18 : decode yB 18 = .ok (.astore_n 2, 1) := by decide +kernel
theorem d19 : decode yB 19 = .ok (.getstatic 38, 3) := by decide +kernel
theorem d22 : decode yB 22 = .ok (.ifCond (.eq) 14, 3) := by decide +kernel
theorem d25 : decode yB 25 = .ok (.aload_n 0, 1) := by decide +kernel
theorem d26 : decode yB 26 = .ok (.getfield 15, 3) := by decide +kernel
theorem d29 : decode yB 29 = .ok (.aload_n 2, 1) := by decide +kernel
theorem d30 : decode yB 30 = .ok (.getfield 15, 3) := by decide +kernel
theorem d33 : decode yB 33 = .ok (.if_icmp (.ne) 21, 3) := by decide +kernel
theorem d36 : decode yB 36 = .ok (.aload_n 0, 1) := by decide +kernel
theorem d37 : decode yB 37 = .ok (.getfield 9, 3) := by decide +kernel
theorem d40 : decode yB 40 = .ok (.aload_n 2, 1) := by decide +kernel
theorem d41 : decode yB 41 = .ok (.getfield 9, 3) := by decide +kernel
theorem d44 : decode yB 44 = .ok (.invokestatic 541, 3) := by decide +kernel
theorem d47 : decode yB 47 = .ok (.ifCond (.eq) 7, 3) := by decide +kernel
theorem d50 : decode yB 50 = .ok (.iconst 1, 1) := by decide +kernel
theorem d51 : decode yB 51 = .ok (.goto 4, 3) := by decide +kernel
theorem d54 : decode yB 54 = .ok (.iconst 0, 1) := by decide +kernel
theorem d55 : decode yB 55 = .ok (.ireturn, 1) := by decide +kernel
def site : List Cond := [.classLink "java/lang/String" 10 "java/lang/String", .fieldLink "java/lang/String" 38 "java/lang/String" "COMPACT_STRINGS" "Z", .fieldLink "java/lang/String" 15 "java/lang/String" "coder" "B", .fieldLink "java/lang/String" 9 "java/lang/String" "value" "[B", LEq.tab] ++ staticW "java/lang/String" 541 LEq.yN
def tab : Cond := tabOf yN yB 3 (some .boolean) site
def P (x t : Addr) (V : Cell) (cd : Int32) (n : Nat) (f : Nat → Int32) (y t' : Addr) (V' : Cell) (cd' : Int32) (k : Nat) (g : Nat → Int32) (z : Int32) (args : Array Value) (s : State) : Prop := args = #[.ref x, .ref y] ∧ Txt x t V cd n f s ∧ Txt y t' V' cd' k g s ∧ StaticIs s "java/lang/String" "COMPACT_STRINGS" "Z" (.int z) ∧ ¬ z = 0
/-- equals(Object) of two Strings: whether the texts are the same -/
theorem law (l : Launch) (x t : Addr) (V : Cell) (cd : Int32) (n : Nat) (f : Nat → Int32) (y t' : Addr) (V' : Cell) (cd' : Int32) (k : Nat) (g : Nat → Int32) (z : Int32) : Law l yN 2 1 1 14 yB 3 (some .boolean) site (P x t V cd n f y t' V' cd' k g z) (Says01 (SameT n f k g)) [] 0 0 := by
  refine Law.of_walk (plainFor_of_name (by decide +kernel)) (by decide +kernel) (by decide +kernel) (by decide) (fun _ _ h => by rw [h.1]; rfl) (fun _ U U' hal hh h => ⟨h.1, h.2.1.mv hal hh, h.2.2.1.mv hal hh, h.2.2.2.1.there hal hh, h.2.2.2.2⟩) (fun r U U' V V' h1 hal h2 h => Says01.mv r U U' V V' h1 hal h2 h) ?_
  intro p e s m args below meth c s₁ X0 hexec hbytes hml hret hlk hnm hown hh0 W hP
  obtain ⟨rfl, hx, hy, s1, hz⟩ := hP
  have c1 : Steps p.tables e below (s₁.setTop (entryFrame m #[.ref x, .ref y] 3)) (s₁.setTop (mkF m 2 #[.val (.ref x), .val (.ref y), .unset] [.ref y, .ref x])) := Steps.trans (entry rfl) (by
    show Steps p.tables e below (s₁.setTop (mkF m 0 #[.val (.ref x), .val (.ref y), .unset] [])) _
    refine XS.aloadN X0.here hexec rfl (hb hbytes d0) rfl rfl ?_
    refine XS.aloadN X0.here hexec rfl (hb hbytes d1) rfl rfl ?_
    exact Steps.refl _)
  by_cases hxy : x = y
  · have c2 : Steps p.tables e below (s₁.setTop (entryFrame m #[.ref x, .ref y] 3)) (s₁.setTop (mkF m 6 #[.val (.ref x), .val (.ref y), .unset] [.int 1])) := c1.trans (by
      refine acmpNo X0.here hexec rfl (hb hbytes d2) rfl rfl rfl (by simp [acmp, hxy]) ?_
      refine iconstV X0.here hexec rfl 1 (hb hbytes d5) (by decide) ?_
      exact Steps.refl _)
    subst hxy
    have ec : cd = cd' := by
      obtain ⟨D, fd, a1, a2, a3⟩ := hx.2.2.1
      obtain ⟨D', fd', b1, b2, b3⟩ := hy.2.2.1
      cases a1.symm.trans b1
      obtain ⟨q1, q2, q3, q4⟩ := a2.1
      obtain ⟨r1, r2, r3, r4⟩ := b2.1
      cases q4.symm.trans r4
      cases a3.symm.trans b3; rfl
    have et : t = t' := by
      obtain ⟨D, fd, a1, a2, a3⟩ := hx.2.1
      obtain ⟨D', fd', b1, b2, b3⟩ := hy.2.1
      cases a1.symm.trans b1
      obtain ⟨q1, q2, q3, q4⟩ := a2.1
      obtain ⟨r1, r2, r3, r4⟩ := b2.1
      cases q4.symm.trans r4
      cases a3.symm.trans b3; rfl
    subst ec et
    have ev : V = V' := by cases hx.2.2.2.1.1.symm.trans hy.2.2.2.1.1; rfl
    subst ev
    have hs : SameT n f k g := (Cod.eqv hx.2.2.2.2.1 hy.2.2.2.2.1 hx.2.2.2.2.2 hy.2.2.2.2.2).mp ⟨rfl, fun _ _ => rfl⟩
    exact ⟨s₁, some (.int 1), _, _, _, X0, rfl, rfl, rfl, (fun h => by cases h), ⟨1, rfl, hh0, Or.inl ⟨rfl, hs⟩⟩, fun fs hl => c2.trans (X0.ireturnOut hexec hret rfl (Or.inr (Or.inl rfl)) (hb hbytes d6) hl)⟩
  · have c2 : Steps p.tables e below (s₁.setTop (entryFrame m #[.ref x, .ref y] 3)) (s₁.setTop (mkF m 8 #[.val (.ref x), .val (.ref y), .unset] [.ref y])) := c1.trans (by
      refine acmpYes X0.here hexec rfl (pc0 := 2) rfl (hb hbytes d2) rfl rfl rfl (by simp [acmp, hxy]) (by decide) rfl ?_
      refine XS.aloadN X0.here hexec rfl (hb hbytes d7) rfl rfl ?_
      exact Steps.refl _)
    obtain ⟨T3, X3, q3, st3⟩ := cinst X0 hexec hown (wk W (.classLink "java/lang/String" 10 "java/lang/String")) (hy.mv X0.warmed.alike hh0).1 (g := (mkF m 8 #[.val (.ref x), .val (.ref y), .unset] [.ref y])) rfl (rest := []) rfl (hb hbytes d8)
    have hh3 := q3.trans hh0
    have c4 : Steps p.tables e below (s₁.setTop (entryFrame m #[.ref x, .ref y] 3)) (T3.setTop (mkF m 15 #[.val (.ref x), .val (.ref y), .unset] [.ref y])) := (c2.trans (st3 _ (Steps.refl _))).trans (by
      refine XS.ifNo X3.here hexec rfl (hb hbytes d11) rfl (i0_eq_f (by decide)) ?_
      refine XS.aloadN X3.here hexec rfl (hb hbytes d14) rfl rfl ?_
      exact Steps.refl _)
    obtain ⟨T5, X5, q5, st5⟩ := cself X3 hexec hown (wk W (.classLink "java/lang/String" 10 "java/lang/String")) (hy.mv X3.warmed.alike hh3).1 (g := (mkF m 15 #[.val (.ref x), .val (.ref y), .unset] [.ref y])) rfl (rest := []) rfl (hb hbytes d15)
    have hh5 := q5.trans hh3
    have c6 : Steps p.tables e below (s₁.setTop (entryFrame m #[.ref x, .ref y] 3)) (T5.setTop (mkF m 19 #[.val (.ref x), .val (.ref y), .val (.ref y)] [])) := (c4.trans (st5 _ (Steps.refl _))).trans (by
      refine XS.astoreN X5.here hexec rfl (hb hbytes d18) rfl rfl rfl ?_
      exact Steps.refl _)
    obtain ⟨T7, X7, q7, st7⟩ := X5.sget hexec hown (wk W (.fieldLink "java/lang/String" 38 "java/lang/String" "COMPACT_STRINGS" "Z")) s1 (fun _ _ h => by rw [hh5]; exact h) (g := (mkF m 19 #[.val (.ref x), .val (.ref y), .val (.ref y)] [])) rfl (hb hbytes d19)
    have hh7 := q7.trans hh5
    have c8 : Steps p.tables e below (s₁.setTop (entryFrame m #[.ref x, .ref y] 3)) (T7.setTop (mkF m 26 #[.val (.ref x), .val (.ref y), .val (.ref y)] [.ref x])) := (c6.trans (st7 _ (Steps.refl _))).trans (by
      refine XS.ifNo X7.here hexec rfl (hb hbytes d22) rfl (i0_eq_f hz) ?_
      refine XS.aloadN X7.here hexec rfl (hb hbytes d25) rfl rfl ?_
      exact Steps.refl _)
    obtain ⟨T9, X9, q9, st9⟩ := X7.hget hexec hown (wk W (.fieldLink "java/lang/String" 15 "java/lang/String" "coder" "B")) (hx.mv X7.warmed.alike hh7).2.2.1 (g := (mkF m 26 #[.val (.ref x), .val (.ref y), .val (.ref y)] [.ref x])) rfl (rest := []) rfl (hb hbytes d26)
    have hh9 := q9.trans hh7
    have c10 : Steps p.tables e below (s₁.setTop (entryFrame m #[.ref x, .ref y] 3)) (T9.setTop (mkF m 30 #[.val (.ref x), .val (.ref y), .val (.ref y)] [.ref y, .int cd])) := (c8.trans (st9 _ (Steps.refl _))).trans (by
      refine XS.aloadN X9.here hexec rfl (hb hbytes d29) rfl rfl ?_
      exact Steps.refl _)
    obtain ⟨T11, X11, q11, st11⟩ := X9.hget hexec hown (wk W (.fieldLink "java/lang/String" 15 "java/lang/String" "coder" "B")) (hy.mv X9.warmed.alike hh9).2.2.1 (g := (mkF m 30 #[.val (.ref x), .val (.ref y), .val (.ref y)] [.ref y, .int cd])) rfl (rest := [.int cd]) rfl (hb hbytes d30)
    have hh11 := q11.trans hh9
    have c12 : Steps p.tables e below (s₁.setTop (entryFrame m #[.ref x, .ref y] 3)) (T11.setTop (mkF m 33 #[.val (.ref x), .val (.ref y), .val (.ref y)] [.int cd', .int cd])) := c10.trans (st11 _ (Steps.refl _))
    by_cases hcd : cd = cd'
    · subst hcd
      have c13 : Steps p.tables e below (s₁.setTop (entryFrame m #[.ref x, .ref y] 3)) (T11.setTop (mkF m 37 #[.val (.ref x), .val (.ref y), .val (.ref y)] [.ref x])) := c12.trans (by
        refine XS.icmpNo X11.here hexec rfl (hb hbytes d33) rfl (ii_ne_f rfl) ?_
        refine XS.aloadN X11.here hexec rfl (hb hbytes d36) rfl rfl ?_
        exact Steps.refl _)
      obtain ⟨T14, X14, q14, st14⟩ := X11.hget hexec hown (wk W (.fieldLink "java/lang/String" 9 "java/lang/String" "value" "[B")) (hx.mv X11.warmed.alike hh11).2.1 (g := (mkF m 37 #[.val (.ref x), .val (.ref y), .val (.ref y)] [.ref x])) rfl (rest := []) rfl (hb hbytes d37)
      have hh14 := q14.trans hh11
      have c15 : Steps p.tables e below (s₁.setTop (entryFrame m #[.ref x, .ref y] 3)) (T14.setTop (mkF m 41 #[.val (.ref x), .val (.ref y), .val (.ref y)] [.ref y, .ref t])) := (c13.trans (st14 _ (Steps.refl _))).trans (by
        refine XS.aloadN X14.here hexec rfl (hb hbytes d40) rfl rfl ?_
        exact Steps.refl _)
      obtain ⟨T16, X16, q16, st16⟩ := X14.hget hexec hown (wk W (.fieldLink "java/lang/String" 9 "java/lang/String" "value" "[B")) (hy.mv X14.warmed.alike hh14).2.1 (g := (mkF m 41 #[.val (.ref x), .val (.ref y), .val (.ref y)] [.ref y, .ref t])) rfl (rest := [.ref t]) rfl (hb hbytes d41)
      have hh16 := q16.trans hh14
      have c17 : Steps p.tables e below (s₁.setTop (entryFrame m #[.ref x, .ref y] 3)) (T16.setTop (mkF m 44 #[.val (.ref x), .val (.ref y), .val (.ref y)] [.ref t', .ref t])) := c15.trans (st16 _ (Steps.refl _))
      obtain ⟨v18, T18, X18, E18, g18⟩ := X16.callS hexec (LEq.law l t V t' V') hown (wks W (staticW "java/lang/String" 541 LEq.yN)) (wk W LEq.tab) (W := 0) (Nat.le_of_ble_eq_true rfl) (Nat.le_of_ble_eq_true rfl) (Nat.le_refl _) (Nat.le_refl _) (g := (mkF m 44 #[.val (.ref x), .val (.ref y), .val (.ref y)] [.ref t', .ref t])) rfl (by rw [hml]; rfl) c17 (argsL := [.ref t, .ref t']) (rest := []) rfl rfl (by show 2 * 0 + 0 ≤ _; decide) (hb hbytes d44) (⟨rfl, hx.2.2.2.1.mv X16.warmed.alike hh16, hx.2.2.2.2.1.ty, hy.2.2.2.1.mv X16.warmed.alike hh16, hy.2.2.2.2.1.ty⟩)
      obtain ⟨v, rfl, q18, hv⟩ := E18
      have iff := Cod.eqv hx.2.2.2.2.1 hy.2.2.2.2.1 hx.2.2.2.2.2 hy.2.2.2.2.2
      rcases hv with ⟨rfl, he⟩ | ⟨rfl, he⟩
      · have c19 : Steps p.tables e below (s₁.setTop (entryFrame m #[.ref x, .ref y] 3)) (T18.setTop (mkF m 55 #[.val (.ref x), .val (.ref y), .val (.ref y)] [.int 1])) := Steps.trans g18 (by
          refine XS.ifNo X18.here hexec rfl (hb hbytes d47) rfl (i0_eq_f (by decide)) ?_
          refine iconstV X18.here hexec rfl 1 (hb hbytes d50) (by decide) ?_
          refine XS.goto X18.here hexec rfl (pc0 := 51) rfl (hb hbytes d51) (by decide) rfl ?_
          exact Steps.refl _)
        exact ⟨T18, some (.int 1), _, _, _, X18, rfl, rfl, rfl, (fun h => by cases h), ⟨1, rfl, q18.trans hh16, Or.inl ⟨rfl, iff.mp he⟩⟩, fun fs hl => c19.trans (X18.ireturnOut hexec hret rfl (Or.inr (Or.inl rfl)) (hb hbytes d55) hl)⟩
      · have c19 : Steps p.tables e below (s₁.setTop (entryFrame m #[.ref x, .ref y] 3)) (T18.setTop (mkF m 55 #[.val (.ref x), .val (.ref y), .val (.ref y)] [.int 0])) := Steps.trans g18 (by
          refine XS.ifYes X18.here hexec rfl (pc0 := 47) rfl (hb hbytes d47) rfl (i0_eq_t rfl) (by decide) rfl ?_
          refine iconstV X18.here hexec rfl 0 (hb hbytes d54) (by decide) ?_
          exact Steps.refl _)
        exact ⟨T18, some (.int 0), _, _, _, X18, rfl, rfl, rfl, (fun h => by cases h), ⟨0, rfl, q18.trans hh16, Or.inr ⟨rfl, fun q => he (iff.mpr q)⟩⟩, fun fs hl => c19.trans (X18.ireturnOut hexec hret rfl (Or.inr (Or.inl rfl)) (hb hbytes d55) hl)⟩
    · have c13 : Steps p.tables e below (s₁.setTop (entryFrame m #[.ref x, .ref y] 3)) (T11.setTop (mkF m 55 #[.val (.ref x), .val (.ref y), .val (.ref y)] [.int 0])) := c12.trans (by
        refine XS.icmpYes X11.here hexec rfl (pc0 := 33) rfl (hb hbytes d33) rfl (ii_ne_t hcd) (by decide) rfl ?_
        refine iconstV X11.here hexec rfl 0 (hb hbytes d54) (by decide) ?_
        exact Steps.refl _)
      exact ⟨T11, some (.int 0), _, _, _, X11, rfl, rfl, rfl, (fun h => by cases h), ⟨0, rfl, hh11, Or.inr ⟨rfl, Cod.dif hx.2.2.2.2.1 hy.2.2.2.2.1 hcd⟩⟩, fun fs hl => c13.trans (X11.ireturnOut hexec hret rfl (Or.inr (Or.inl rfl)) (hb hbytes d55) hl)⟩
theorem pays {l : Launch} {R : Room} {p : Program} {e : Env} {below : List Frame} {s : State} {sargs : Array Value} {len W : Nat} (x t : Addr) (V : Cell) (cd : Int32) (n : Nat) (f : Nat → Int32) (y t' : Addr) (V' : Cell) (cd' : Int32) (k : Nat) (g : Nat → Int32) (z : Int32) (htab : tab.before sargs s = true) (hfr : 2 ≤ R.frames) (hlo : W + 28 ≤ R.locals) :
    Back l R p e below s sargs yN len W (fun A₁ a₁ => A₁.cells + 0 ≤ R.cells ∧ A₁.slots + 0 ≤ R.slots ∧ P x t V cd n f y t' V' cd' k g z a₁ A₁.U) (fun A₁ _ v₁ B₁ => Says01 (SameT n f k g) v₁ A₁.U B₁.U ∧ B₁.locs = A₁.locs ++ [] ∧ B₁.cells = A₁.cells + 0 ∧ B₁.slots = A₁.slots + 0) :=
  (law l x t V cd n f y t' V' cd' k g z).pays htab hfr (by omega)
end SEq
end StrChars
namespace StrChars.Road
open Jvm Sem ClassFile Op Lib Jvm.Stand Jvm.Free Jvm.Free.XT
open Jvm.Lib.Cold (StaticIs)
/-- the words of String.equals(Object) -/
abbrev wordsEq : List Jvm.Cond := [.code SEq.yN SEq.yB 3 (some .boolean), .initialized ST, .classLink ST 10 ST, .fieldLink ST 38 ST "COMPACT_STRINGS" "Z", .fieldLink ST 15 ST "coder" "B", .fieldLink ST 9 ST "value" "[B", .methodLink ST 541 LEq.yN, .static LEq.yN, .code LEq.yN LEq.yB 3 (some .boolean), .initialized "java/lang/StringLatin1"]
theorem tabEq_of {a : Array Value} {s : State} (h : ∀ w ∈ wordsEq, w.before a s = true) : SEq.tab.before a s = true := by
  have hl : LEq.tab.before a s = true := unparts (wk h (.code LEq.yN LEq.yB 3 (some .boolean))) (wks h (.initialized LEq.yN.cls :: LEq.site))
  have q := consq hl h
  exact unparts (wk q (.code SEq.yN SEq.yB 3 (some .boolean))) (wks q (.initialized SEq.yN.cls :: SEq.site))
theorem movedEq {Z s : State} {a0 args : Array Value} (hZ : Z.Warmed39 s.vm) (hw : ∀ d ∈ wordsEq, d.before a0 Z = true) : ∀ d ∈ wordsEq, d.before args s = true := fun d hd => by
  have t : ∀ d ∈ wordsEq, (d.onTables && d.keepsFace) = true := by decide +kernel
  exact RoadKit.mv hZ (hw d hd) (t d hd)
/-- the road's facts of a String, as the laws ask it -/
theorem txt_of {Z U : State} {a0 : Array Value} {kI : Nat} (wi : (Jvm.Cond.instantiable ST kI).before a0 Z = true) (al : Z.vm.Alike U.vm) {x t : Addr} {kb : ClassId} {cs : List Int32} {cd N2 : Int32} {vs : List Value} (E : RoadKit.Exa Z U.heap x ST) (V : RoadKit.Fld Z U.heap x ST "value" "[B" (.ref t)) (C : RoadKit.Fld Z U.heap x ST "coder" "B" (.int cd)) (K : RoadKit.Arv Z U.heap t kb .byte N2 vs (.int 0)) (hc : CodA cs cd N2 vs) (hb : ∀ c ∈ cs, ¬ c < 0 ∧ ¬ (65535 : Int32) < c) (l2 : cs.length ≤ 4000) :
    ∃ A, Txt x t A cd cs.length (fun j => cs.getD j 0) U := by
  obtain ⟨A, K1, K2, K3, K4, K5, K6⟩ := K
  have hcod := hc.cod (by omega) K3 K5
  obtain ⟨D, fV, fC, hB, F1, F2, g1, g2, -, -⟩ := strObj wi al E V C
  exact ⟨A, ⟨_, hB.2.2.1, D, hB.1, rfl, by cases q : D.vm <;> first | rfl | exact absurd q (hB.2.1.2 _)⟩, Has.of hB F1 g1, Has.of hB F2 g2, ⟨K1.1, State.isArrayOf_alike al K1.2.1, K1.2.2, by rcases hcod with ⟨-, q, -⟩ | ⟨-, q, -⟩ <;> omega⟩, hcod, fun j hj => by
    have e : cs.getD j 0 = cs[j] := by simp [List.getD_eq_getElem?_getD, hj]
    show ¬ cs.getD j 0 < 0 ∧ ¬ 65535 < cs.getD j 0
    rw [e]; exact hb _ (List.getElem_mem _)⟩
theorem same_list (cs ds : List Int32) : SameT cs.length (fun j => cs.getD j 0) ds.length (fun j => ds.getD j 0) ↔ cs = ds := by
  constructor
  · rintro ⟨e, q⟩
    refine List.ext_getElem e fun j h1 h2 => ?_
    have := q j h1
    simpa [List.getD_eq_getElem?_getD, h1, h2] using this
  · rintro rfl
    exact ⟨rfl, fun _ _ => rfl⟩
/-- **equals(Object) OF TWO SUCH STRINGS**: 1 just where the chars are the same -/
theorem eqW {p : Program} {l : Launch} {e : Env} {R : Room} {s : State} {args : Array Value} {below : List Frame} {len W : Nat} {Z : State} {a0 : Array Value} {h : Heap} (hZ : Z.Warmed39 s.vm) (hw : ∀ d ∈ wordsEq, d.before a0 Z = true) {kI : Nat} (wi : (Jvm.Cond.instantiable ST kI).before a0 Z = true)
    {x t : Addr} {kb : ClassId} {cs : List Int32} {cd N2 : Int32} {vs : List Value} (E : RoadKit.Exa Z h x ST) (V : RoadKit.Fld Z h x ST "value" "[B" (.ref t)) (C : RoadKit.Fld Z h x ST "coder" "B" (.int cd)) (K : RoadKit.Arv Z h t kb .byte N2 vs (.int 0)) (hc : CodA cs cd N2 vs) (hb : ∀ c ∈ cs, ¬ c < 0 ∧ ¬ (65535 : Int32) < c) (l2 : cs.length ≤ 4000)
    {y t' : Addr} {kb' : ClassId} {ds : List Int32} {cd' N2' : Int32} {vs' : List Value} (E' : RoadKit.Exa Z h y ST) (V' : RoadKit.Fld Z h y ST "value" "[B" (.ref t')) (C' : RoadKit.Fld Z h y ST "coder" "B" (.int cd')) (K' : RoadKit.Arv Z h t' kb' .byte N2' vs' (.int 0)) (hc' : CodA ds cd' N2' vs') (hb' : ∀ c ∈ ds, ¬ c < 0 ∧ ¬ (65535 : Int32) < c) (l2' : ds.length ≤ 4000)
    {z : Int32} (S : RoadKit.Sta Z h ST "COMPACT_STRINGS" "Z" (.int z)) (hz : ¬ z = 0) (hfr : 2 ≤ R.frames) (hlo : W + 28 ≤ R.locals) :
    Back l R p e below s args (⟨"java/lang/String", "equals", "(Ljava/lang/Object;)Z"⟩ : MethodName) len W (fun P a => a = #[.ref x, .ref y] ∧ P.U.heap = h ∧ P.cells + 0 ≤ R.cells ∧ P.slots + 0 ≤ R.slots)
      (fun P _ v B => ∃ L, (((v = some (.int 1) ∧ cs = ds) ∨ (v = some (.int 0) ∧ ¬ cs = ds)) ∧ L = [] ∧ B.U.heap = h) ∧ B.locs = P.locs ++ L ∧ B.cells = P.cells + 0 ∧ B.slots = P.slots + 0) := by
  intro m meth c P g ig mk a X hg hsize hdg hW hn hp'
  obtain ⟨rfl, rfl, r1, r2⟩ := hp'
  have al : Z.vm.Alike P.U.vm := hZ.alike.trans X.warmed.alike
  obtain ⟨A, hx⟩ := txt_of wi al E V C K hc hb l2
  obtain ⟨A', hy⟩ := txt_of wi al E' V' C' K' hc' hb' l2'
  obtain ⟨v, B, X', ⟨⟨w, hv, hh, hq⟩, hl, hk, hs⟩, st⟩ := SEq.pays x t A cd cs.length (fun j => cs.getD j 0) y t' A' cd' ds.length (fun j => ds.getD j 0) z (tabEq_of (movedEq hZ hw)) hfr hlo m meth c P g ig mk _ X hg hsize hdg hW hn ⟨r1, r2, rfl, hx, hy, sta_is al S, hz⟩
  refine ⟨v, B, X', ⟨[], ⟨?_, rfl, hh⟩, hl, hk, hs⟩, st⟩
  rcases hq with ⟨rfl, q⟩ | ⟨rfl, q⟩
  · exact Or.inl ⟨hv, (same_list cs ds).mp q⟩
  · exact Or.inr ⟨hv, fun e => q ((same_list cs ds).mpr e)⟩
end StrChars.Road
namespace StrChars.Road
open Jvm Sem ClassFile Op Lib Jvm.Stand Jvm.Free Jvm.Free.XT
open Jvm.Lib.Cold (StaticIs)
/-- what backV says of its String, as the contracts of this text ask it: cs's low bytes, coder 0 -/
theorem codOf {cs : List Int32} {n : Nat} (hn : cs.length = n) (hb : ∀ c ∈ cs, ¬ 255 < c) : CodA cs 0 (Int32.ofNat n) ((cs.map lo8).map Value.int) := Or.inl ⟨rfl, by rw [hn], by simp [List.map_map, Function.comp_def], hb⟩
end StrChars.Road
end Jvm.Pilot.@@N@@
namespace Jvm.Pilot.@@N@@
open Jvm Jvm.ClassFile Sem Op Lib Jvm.Free Jvm.Stand Jvm.LawKit Jvm.RoadKit Bundle Jvm.Pilot.@@N@@.Jvm.D
/-- the run from S on comes to an end of which G holds -/
def Go (p : Program) (e : Env) (below : List Frame) (G : Outcome → State → Prop) (S : State) : Prop := ∃ s₂ o, Steps p.tables e below S s₂ ∧ s₂.status = .running ∧ Ended s₂ below o ∧ G o s₂
theorem Go.mono {p : Program} {e : Env} {below : List Frame} {G : Outcome → State → Prop} {S S' : State} (st : ∀ t, Steps p.tables e below S' t → Steps p.tables e below S t) (h : Go p e below G S') : Go p e below G S := by
  obtain ⟨a, b, c, d⟩ := h; exact ⟨a, b, st _ c, d⟩
/-- where a walk stands: the method's own facts, the heap, and an invariant I over the tables' state and the heap -/
def Wk (p : Program) (l : Launch) (e : Env) (R : Room) (m : MethodId) (args : Array Value) (below : List Frame) (meth : Method) (c : Code) (own : String) (bytes : ByteArray) (maxL : Nat) (Z : State) (I : State → Heap → Prop) (s' T : State) (locs : List Loc) (cells slots : Nat) (h : Heap) : Prop :=
  Stand p l e R s' m args below meth c T locs cells slots ∧ T.heap = h ∧ Z.Warmed39 s'.vm ∧ s'.vm.findClass own = some m.cls ∧ p.tables.exec = Jvm.exec ∧ c.code = bytes ∧ c.maxLocals = maxL ∧ I s' h
section Walk
variable {p : Program} {l : Launch} {e : Env} {R : Room} {m : MethodId} {args : Array Value} {below : List Frame} {meth : Method} {c : Code} {own : String} {bytes : ByteArray} {maxL : Nat} {Z : State} {I : State → Heap → Prop} {s' T : State} {locs : List Loc} {cells slots : Nat} {h : Heap} {G : Outcome → State → Prop} {pc : Nat} {Ls : Array Slot} {S : List Value} {a0 : Array Value}
theorem Wk.st (D : Wk p l e R m args below meth c own bytes maxL Z I s' T locs cells slots h) : Stand p l e R s' m args below meth c T locs cells slots := D.1
theorem Wk.eq (D : Wk p l e R m args below meth c own bytes maxL Z I s' T locs cells slots h) : T.heap = h := D.2.1
theorem Wk.wm (D : Wk p l e R m args below meth c own bytes maxL Z I s' T locs cells slots h) : Z.Warmed39 s'.vm := D.2.2.1
theorem Wk.ow (D : Wk p l e R m args below meth c own bytes maxL Z I s' T locs cells slots h) : s'.vm.findClass own = some m.cls := D.2.2.2.1
theorem Wk.ex (D : Wk p l e R m args below meth c own bytes maxL Z I s' T locs cells slots h) : p.tables.exec = Jvm.exec := D.2.2.2.2.1
theorem Wk.cb (D : Wk p l e R m args below meth c own bytes maxL Z I s' T locs cells slots h) : c.code = bytes := D.2.2.2.2.2.1
theorem Wk.ml (D : Wk p l e R m args below meth c own bytes maxL Z I s' T locs cells slots h) : c.maxLocals = maxL := D.2.2.2.2.2.2.1
theorem Wk.iv (D : Wk p l e R m args below meth c own bytes maxL Z I s' T locs cells slots h) : I s' h := D.2.2.2.2.2.2.2
theorem Wk.mk' {T' : State} {locs' : List Loc} {cells' slots' : Nat} {h' : Heap} (D : Wk p l e R m args below meth c own bytes maxL Z I s' T locs cells slots h) (X : Stand p l e R s' m args below meth c T' locs' cells' slots') (q : T'.heap = h') (i : I s' h') : Wk p l e R m args below meth c own bytes maxL Z I s' T' locs' cells' slots' h' := ⟨X, q, D.wm, D.ow, D.ex, D.cb, D.ml, i⟩
theorem g_aloadN (D : Wk p l e R m args below meth c own bytes maxL Z I s' T locs cells slots h) (pc' : Nat) {k : Fin 4} {v : Value} (hd : decode bytes pc = .ok (.aload_n k, 1)) (hl : Ls[k.val]? = some (.val v)) (hv : v.isRef = true) (hp : pc + 1 = pc') (hr : Go p e below G (T.setTop (mkF m pc' Ls (v :: S)))) : Go p e below G (T.setTop (mkF m pc Ls S)) := by
  subst hp; exact Go.mono (fun t k => XS.aloadN D.st.here D.ex rfl (hb D.cb hd) hl hv k) hr
theorem g_aload (D : Wk p l e R m args below meth c own bytes maxL Z I s' T locs cells slots h) (pc' : Nat) {k : Nat} {v : Value} (hd : decode bytes pc = .ok (.aload k, 2)) (hl : Ls[k]? = some (.val v)) (hv : v.isRef = true) (hp : pc + 2 = pc') (hr : Go p e below G (T.setTop (mkF m pc' Ls (v :: S)))) : Go p e below G (T.setTop (mkF m pc Ls S)) := by
  subst hp; exact Go.mono (fun t k => XS.aload D.st.here D.ex rfl (hb D.cb hd) hl hv k) hr
theorem g_iloadN (D : Wk p l e R m args below meth c own bytes maxL Z I s' T locs cells slots h) (pc' : Nat) {k : Fin 4} {v : Int32} (hd : decode bytes pc = .ok (.iload_n k, 1)) (hl : Ls[k.val]? = some (.val (.int v))) (hp : pc + 1 = pc') (hr : Go p e below G (T.setTop (mkF m pc' Ls (.int v :: S)))) : Go p e below G (T.setTop (mkF m pc Ls S)) := by
  subst hp; exact Go.mono (fun t k => XS.iloadN D.st.here D.ex rfl (hb D.cb hd) hl k) hr
theorem g_iload (D : Wk p l e R m args below meth c own bytes maxL Z I s' T locs cells slots h) (pc' : Nat) {k : Nat} {v : Int32} (hd : decode bytes pc = .ok (.iload k, 2)) (hl : Ls[k]? = some (.val (.int v))) (hp : pc + 2 = pc') (hr : Go p e below G (T.setTop (mkF m pc' Ls (.int v :: S)))) : Go p e below G (T.setTop (mkF m pc Ls S)) := by
  subst hp; exact Go.mono (fun t k => XS.iload D.st.here D.ex rfl (hb D.cb hd) hl k) hr
theorem g_lloadN (D : Wk p l e R m args below meth c own bytes maxL Z I s' T locs cells slots h) (pc' : Nat) {k : Fin 4} {v : Int64} (hd : decode bytes pc = .ok (.lload_n k, 1)) (hl : Ls[k.val]? = some (.val (.long v))) (hp : pc + 1 = pc') (hr : Go p e below G (T.setTop (mkF m pc' Ls (.long v :: S)))) : Go p e below G (T.setTop (mkF m pc Ls S)) := by
  subst hp; exact Go.mono (fun t k => XS.lloadN D.st.here D.ex rfl (hb D.cb hd) hl k) hr
theorem g_lload (D : Wk p l e R m args below meth c own bytes maxL Z I s' T locs cells slots h) (pc' : Nat) {k : Nat} {v : Int64} (hd : decode bytes pc = .ok (.lload k, 2)) (hl : Ls[k]? = some (.val (.long v))) (hp : pc + 2 = pc') (hr : Go p e below G (T.setTop (mkF m pc' Ls (.long v :: S)))) : Go p e below G (T.setTop (mkF m pc Ls S)) := by
  subst hp; exact Go.mono (fun t k => XS.lload D.st.here D.ex rfl (hb D.cb hd) hl k) hr
theorem g_istoreN (D : Wk p l e R m args below meth c own bytes maxL Z I s' T locs cells slots h) (pc' : Nat) {k : Fin 4} {x : Int32} (l' : Array Slot) (hd : decode bytes pc = .ok (.istore_n k, 1)) (hl : storeLocals Ls k.val (.int x) = some l') (hp : pc + 1 = pc') (hr : Go p e below G (T.setTop (mkF m pc' l' S))) : Go p e below G (T.setTop (mkF m pc Ls (.int x :: S))) := by
  subst hp; exact Go.mono (fun t k => XS.istoreN D.st.here D.ex rfl (hb D.cb hd) rfl hl k) hr
theorem g_istore (D : Wk p l e R m args below meth c own bytes maxL Z I s' T locs cells slots h) (pc' : Nat) {k : Nat} {x : Int32} (l' : Array Slot) (hd : decode bytes pc = .ok (.istore k, 2)) (hl : storeLocals Ls k (.int x) = some l') (hp : pc + 2 = pc') (hr : Go p e below G (T.setTop (mkF m pc' l' S))) : Go p e below G (T.setTop (mkF m pc Ls (.int x :: S))) := by
  subst hp; exact Go.mono (fun t k => XS.istore D.st.here D.ex rfl (hb D.cb hd) rfl hl k) hr
theorem g_lstoreN (D : Wk p l e R m args below meth c own bytes maxL Z I s' T locs cells slots h) (pc' : Nat) {k : Fin 4} {x : Int64} (l' : Array Slot) (hd : decode bytes pc = .ok (.lstore_n k, 1)) (hl : storeLocals Ls k.val (.long x) = some l') (hp : pc + 1 = pc') (hr : Go p e below G (T.setTop (mkF m pc' l' S))) : Go p e below G (T.setTop (mkF m pc Ls (.long x :: S))) := by
  subst hp; exact Go.mono (fun t k => XS.lstoreN D.st.here D.ex rfl (hb D.cb hd) rfl hl k) hr
theorem g_lstore (D : Wk p l e R m args below meth c own bytes maxL Z I s' T locs cells slots h) (pc' : Nat) {k : Nat} {x : Int64} (l' : Array Slot) (hd : decode bytes pc = .ok (.lstore k, 2)) (hl : storeLocals Ls k (.long x) = some l') (hp : pc + 2 = pc') (hr : Go p e below G (T.setTop (mkF m pc' l' S))) : Go p e below G (T.setTop (mkF m pc Ls (.long x :: S))) := by
  subst hp; exact Go.mono (fun t k => XS.lstore D.st.here D.ex rfl (hb D.cb hd) rfl hl k) hr
theorem g_astoreN (D : Wk p l e R m args below meth c own bytes maxL Z I s' T locs cells slots h) (pc' : Nat) {k : Fin 4} {x : Value} (l' : Array Slot) (hd : decode bytes pc = .ok (.astore_n k, 1)) (hv : x.isRef = true) (hl : storeLocals Ls k.val x = some l') (hp : pc + 1 = pc') (hr : Go p e below G (T.setTop (mkF m pc' l' S))) : Go p e below G (T.setTop (mkF m pc Ls (x :: S))) := by
  subst hp; exact Go.mono (fun t k => XS.astoreN D.st.here D.ex rfl (hb D.cb hd) rfl hv hl k) hr
theorem g_astore (D : Wk p l e R m args below meth c own bytes maxL Z I s' T locs cells slots h) (pc' : Nat) {k : Nat} {x : Value} (l' : Array Slot) (hd : decode bytes pc = .ok (.astore k, 2)) (hv : x.isRef = true) (hl : storeLocals Ls k x = some l') (hp : pc + 2 = pc') (hr : Go p e below G (T.setTop (mkF m pc' l' S))) : Go p e below G (T.setTop (mkF m pc Ls (x :: S))) := by
  subst hp; exact Go.mono (fun t k => XS.astore D.st.here D.ex rfl (hb D.cb hd) rfl hv hl k) hr
theorem g_iconst (D : Wk p l e R m args below meth c own bytes maxL Z I s' T locs cells slots h) (pc' : Nat) {i : Int} (v : Int32) (hd : decode bytes pc = .ok (.iconst i, 1)) (hv : Int32.ofInt i = v) (hp : pc + 1 = pc') (hr : Go p e below G (T.setTop (mkF m pc' Ls (.int v :: S)))) : Go p e below G (T.setTop (mkF m pc Ls S)) := by
  subst hp; subst hv; exact Go.mono (fun t k => XS.iconst D.st.here D.ex rfl (hb D.cb hd) k) hr
theorem g_bipush (D : Wk p l e R m args below meth c own bytes maxL Z I s' T locs cells slots h) (pc' : Nat) {i : Int} (v : Int32) (hd : decode bytes pc = .ok (.bipush i, 2)) (hv : (Int8.ofInt i).toInt32 = v) (hp : pc + 2 = pc') (hr : Go p e below G (T.setTop (mkF m pc' Ls (.int v :: S)))) : Go p e below G (T.setTop (mkF m pc Ls S)) := by
  subst hp; subst hv; exact Go.mono (fun t k => XS.bipush D.st.here D.ex rfl (hb D.cb hd) k) hr
theorem g_sipush (D : Wk p l e R m args below meth c own bytes maxL Z I s' T locs cells slots h) (pc' : Nat) {i : Int} (v : Int32) (hd : decode bytes pc = .ok (.sipush i, 3)) (hv : (Int16.ofInt i).toInt32 = v) (hp : pc + 3 = pc') (hr : Go p e below G (T.setTop (mkF m pc' Ls (.int v :: S)))) : Go p e below G (T.setTop (mkF m pc Ls S)) := by
  subst hp; subst hv; exact Go.mono (fun t k => XS.sipush D.st.here D.ex rfl (hb D.cb hd) k) hr
theorem g_lconst (D : Wk p l e R m args below meth c own bytes maxL Z I s' T locs cells slots h) (pc' : Nat) {i : Fin 2} (v : Int64) (hd : decode bytes pc = .ok (.lconst i, 1)) (hv : Int64.ofNat i = v) (hp : pc + 1 = pc') (hr : Go p e below G (T.setTop (mkF m pc' Ls (.long v :: S)))) : Go p e below G (T.setTop (mkF m pc Ls S)) := by
  subst hp; subst hv; exact Go.mono (fun t k => XS.lconst D.st.here D.ex rfl (hb D.cb hd) k) hr
theorem g_aconst (D : Wk p l e R m args below meth c own bytes maxL Z I s' T locs cells slots h) (pc' : Nat)  (hd : decode bytes pc = .ok (.aconst_null, 1)) (hp : pc + 1 = pc') (hr : Go p e below G (T.setTop (mkF m pc' Ls (.null :: S)))) : Go p e below G (T.setTop (mkF m pc Ls S)) := by
  subst hp; exact Go.mono (fun t k => XS.aconstNull D.st.here D.ex rfl (hb D.cb hd)  k) hr
theorem g_iadd (D : Wk p l e R m args below meth c own bytes maxL Z I s' T locs cells slots h) (pc' : Nat) {x y : Int32} (hd : decode bytes pc = .ok (.iadd, 1)) (hp : pc + 1 = pc') (hr : Go p e below G (T.setTop (mkF m pc' Ls (.int (x + y) :: S)))) : Go p e below G (T.setTop (mkF m pc Ls (.int y :: .int x :: S))) := by
  subst hp; exact Go.mono (fun t k => XS.iadd D.st.here D.ex rfl (hb D.cb hd) rfl k) hr
theorem g_isub (D : Wk p l e R m args below meth c own bytes maxL Z I s' T locs cells slots h) (pc' : Nat) {x y : Int32} (hd : decode bytes pc = .ok (.isub, 1)) (hp : pc + 1 = pc') (hr : Go p e below G (T.setTop (mkF m pc' Ls (.int (x - y) :: S)))) : Go p e below G (T.setTop (mkF m pc Ls (.int y :: .int x :: S))) := by
  subst hp; exact Go.mono (fun t k => XS.isub D.st.here D.ex rfl (hb D.cb hd) rfl k) hr
theorem g_imul (D : Wk p l e R m args below meth c own bytes maxL Z I s' T locs cells slots h) (pc' : Nat) {x y : Int32} (hd : decode bytes pc = .ok (.imul, 1)) (hp : pc + 1 = pc') (hr : Go p e below G (T.setTop (mkF m pc' Ls (.int (x * y) :: S)))) : Go p e below G (T.setTop (mkF m pc Ls (.int y :: .int x :: S))) := by
  subst hp; exact Go.mono (fun t k => XS.imul D.st.here D.ex rfl (hb D.cb hd) rfl k) hr
theorem g_iand (D : Wk p l e R m args below meth c own bytes maxL Z I s' T locs cells slots h) (pc' : Nat) {x y : Int32} (hd : decode bytes pc = .ok (.iand, 1)) (hp : pc + 1 = pc') (hr : Go p e below G (T.setTop (mkF m pc' Ls (.int (x &&& y) :: S)))) : Go p e below G (T.setTop (mkF m pc Ls (.int y :: .int x :: S))) := by
  subst hp; exact Go.mono (fun t k => XS.iand D.st.here D.ex rfl (hb D.cb hd) rfl k) hr
theorem g_ior (D : Wk p l e R m args below meth c own bytes maxL Z I s' T locs cells slots h) (pc' : Nat) {x y : Int32} (hd : decode bytes pc = .ok (.ior, 1)) (hp : pc + 1 = pc') (hr : Go p e below G (T.setTop (mkF m pc' Ls (.int (x ||| y) :: S)))) : Go p e below G (T.setTop (mkF m pc Ls (.int y :: .int x :: S))) := by
  subst hp; exact Go.mono (fun t k => XS.ior D.st.here D.ex rfl (hb D.cb hd) rfl k) hr
theorem g_ixor (D : Wk p l e R m args below meth c own bytes maxL Z I s' T locs cells slots h) (pc' : Nat) {x y : Int32} (hd : decode bytes pc = .ok (.ixor, 1)) (hp : pc + 1 = pc') (hr : Go p e below G (T.setTop (mkF m pc' Ls (.int (x ^^^ y) :: S)))) : Go p e below G (T.setTop (mkF m pc Ls (.int y :: .int x :: S))) := by
  subst hp; exact Go.mono (fun t k => XS.ixor D.st.here D.ex rfl (hb D.cb hd) rfl k) hr
theorem g_ishl (D : Wk p l e R m args below meth c own bytes maxL Z I s' T locs cells slots h) (pc' : Nat) {x y : Int32} (hd : decode bytes pc = .ok (.ishl, 1)) (hp : pc + 1 = pc') (hr : Go p e below G (T.setTop (mkF m pc' Ls (.int (x <<< (y &&& 31)) :: S)))) : Go p e below G (T.setTop (mkF m pc Ls (.int y :: .int x :: S))) := by
  subst hp; exact Go.mono (fun t k => XS.ishl D.st.here D.ex rfl (hb D.cb hd) rfl k) hr
theorem g_ishr (D : Wk p l e R m args below meth c own bytes maxL Z I s' T locs cells slots h) (pc' : Nat) {x y : Int32} (hd : decode bytes pc = .ok (.ishr, 1)) (hp : pc + 1 = pc') (hr : Go p e below G (T.setTop (mkF m pc' Ls (.int (x >>> (y &&& 31)) :: S)))) : Go p e below G (T.setTop (mkF m pc Ls (.int y :: .int x :: S))) := by
  subst hp; exact Go.mono (fun t k => XS.ishr D.st.here D.ex rfl (hb D.cb hd) rfl k) hr
theorem g_iushr (D : Wk p l e R m args below meth c own bytes maxL Z I s' T locs cells slots h) (pc' : Nat) {x y : Int32} (hd : decode bytes pc = .ok (.iushr, 1)) (hp : pc + 1 = pc') (hr : Go p e below G (T.setTop (mkF m pc' Ls (.int (XT.ushr x y) :: S)))) : Go p e below G (T.setTop (mkF m pc Ls (.int y :: .int x :: S))) := by
  subst hp; exact Go.mono (fun t k => XT.iushr D.st.here D.ex rfl (hb D.cb hd) rfl k) hr
theorem g_ladd (D : Wk p l e R m args below meth c own bytes maxL Z I s' T locs cells slots h) (pc' : Nat) {x y : Int64} (hd : decode bytes pc = .ok (.ladd, 1)) (hp : pc + 1 = pc') (hr : Go p e below G (T.setTop (mkF m pc' Ls (.long (x + y) :: S)))) : Go p e below G (T.setTop (mkF m pc Ls (.long y :: .long x :: S))) := by
  subst hp; exact Go.mono (fun t k => XS.ladd D.st.here D.ex rfl (hb D.cb hd) rfl k) hr
theorem g_lsub (D : Wk p l e R m args below meth c own bytes maxL Z I s' T locs cells slots h) (pc' : Nat) {x y : Int64} (hd : decode bytes pc = .ok (.lsub, 1)) (hp : pc + 1 = pc') (hr : Go p e below G (T.setTop (mkF m pc' Ls (.long (x - y) :: S)))) : Go p e below G (T.setTop (mkF m pc Ls (.long y :: .long x :: S))) := by
  subst hp; exact Go.mono (fun t k => XS.lsub D.st.here D.ex rfl (hb D.cb hd) rfl k) hr
theorem g_lmul (D : Wk p l e R m args below meth c own bytes maxL Z I s' T locs cells slots h) (pc' : Nat) {x y : Int64} (hd : decode bytes pc = .ok (.lmul, 1)) (hp : pc + 1 = pc') (hr : Go p e below G (T.setTop (mkF m pc' Ls (.long (x * y) :: S)))) : Go p e below G (T.setTop (mkF m pc Ls (.long y :: .long x :: S))) := by
  subst hp; exact Go.mono (fun t k => XS.lmul D.st.here D.ex rfl (hb D.cb hd) rfl k) hr
theorem g_land (D : Wk p l e R m args below meth c own bytes maxL Z I s' T locs cells slots h) (pc' : Nat) {x y : Int64} (hd : decode bytes pc = .ok (.land, 1)) (hp : pc + 1 = pc') (hr : Go p e below G (T.setTop (mkF m pc' Ls (.long (x &&& y) :: S)))) : Go p e below G (T.setTop (mkF m pc Ls (.long y :: .long x :: S))) := by
  subst hp; exact Go.mono (fun t k => XS.land D.st.here D.ex rfl (hb D.cb hd) rfl k) hr
theorem g_lor (D : Wk p l e R m args below meth c own bytes maxL Z I s' T locs cells slots h) (pc' : Nat) {x y : Int64} (hd : decode bytes pc = .ok (.lor, 1)) (hp : pc + 1 = pc') (hr : Go p e below G (T.setTop (mkF m pc' Ls (.long (x ||| y) :: S)))) : Go p e below G (T.setTop (mkF m pc Ls (.long y :: .long x :: S))) := by
  subst hp; exact Go.mono (fun t k => XS.lor D.st.here D.ex rfl (hb D.cb hd) rfl k) hr
theorem g_lxor (D : Wk p l e R m args below meth c own bytes maxL Z I s' T locs cells slots h) (pc' : Nat) {x y : Int64} (hd : decode bytes pc = .ok (.lxor, 1)) (hp : pc + 1 = pc') (hr : Go p e below G (T.setTop (mkF m pc' Ls (.long (x ^^^ y) :: S)))) : Go p e below G (T.setTop (mkF m pc Ls (.long y :: .long x :: S))) := by
  subst hp; exact Go.mono (fun t k => XS.lxor D.st.here D.ex rfl (hb D.cb hd) rfl k) hr
theorem g_lushr (D : Wk p l e R m args below meth c own bytes maxL Z I s' T locs cells slots h) (pc' : Nat) {x : Int64} {y : Int32} (hd : decode bytes pc = .ok (.lushr, 1)) (hp : pc + 1 = pc') (hr : Go p e below G (T.setTop (mkF m pc' Ls (.long (XT.ushrL x y) :: S)))) : Go p e below G (T.setTop (mkF m pc Ls (.int y :: .long x :: S))) := by
  subst hp; exact Go.mono (fun t k => XT.lushr D.st.here D.ex rfl (hb D.cb hd) rfl k) hr
theorem g_lshl (D : Wk p l e R m args below meth c own bytes maxL Z I s' T locs cells slots h) (pc' : Nat) {x : Int64} {y : Int32} (hd : decode bytes pc = .ok (.lshl, 1)) (hp : pc + 1 = pc') (hr : Go p e below G (T.setTop (mkF m pc' Ls (.long (x <<< (y.toInt64 &&& 63)) :: S)))) : Go p e below G (T.setTop (mkF m pc Ls (.int y :: .long x :: S))) := by
  subst hp; exact Go.mono (fun t k => XT.lshl D.st.here D.ex rfl (hb D.cb hd) rfl k) hr
theorem g_lcmp (D : Wk p l e R m args below meth c own bytes maxL Z I s' T locs cells slots h) (pc' : Nat) {x y : Int64} (hd : decode bytes pc = .ok (.lcmp, 1)) (hp : pc + 1 = pc') (hr : Go p e below G (T.setTop (mkF m pc' Ls (.int (XT.cmpL x y) :: S)))) : Go p e below G (T.setTop (mkF m pc Ls (.long y :: .long x :: S))) := by
  subst hp; exact Go.mono (fun t k => XT.lcmp D.st.here D.ex rfl (hb D.cb hd) rfl k) hr
theorem g_idiv (D : Wk p l e R m args below meth c own bytes maxL Z I s' T locs cells slots h) (pc' : Nat) {x y : Int32} (hd : decode bytes pc = .ok (.idiv, 1)) (hy : y ≠ 0) (hp : pc + 1 = pc') (hr : Go p e below G (T.setTop (mkF m pc' Ls (.int (x / y) :: S)))) : Go p e below G (T.setTop (mkF m pc Ls (.int y :: .int x :: S))) := by
  subst hp; exact Go.mono (fun t k => XS.idiv D.st.here D.ex rfl (hb D.cb hd) rfl hy k) hr
theorem g_irem (D : Wk p l e R m args below meth c own bytes maxL Z I s' T locs cells slots h) (pc' : Nat) {x y : Int32} (hd : decode bytes pc = .ok (.irem, 1)) (hy : y ≠ 0) (hp : pc + 1 = pc') (hr : Go p e below G (T.setTop (mkF m pc' Ls (.int (x % y) :: S)))) : Go p e below G (T.setTop (mkF m pc Ls (.int y :: .int x :: S))) := by
  subst hp; exact Go.mono (fun t k => iremM D.st D.ex rfl (hb D.cb hd) rfl hy k) hr
theorem g_ineg (D : Wk p l e R m args below meth c own bytes maxL Z I s' T locs cells slots h) (pc' : Nat) {x : Int32} (hd : decode bytes pc = .ok (.ineg, 1)) (hp : pc + 1 = pc') (hr : Go p e below G (T.setTop (mkF m pc' Ls (.int (-x) :: S)))) : Go p e below G (T.setTop (mkF m pc Ls (.int x :: S))) := by
  subst hp; exact Go.mono (fun t k => XS.ineg D.st.here D.ex rfl (hb D.cb hd) rfl k) hr
theorem g_i2l (D : Wk p l e R m args below meth c own bytes maxL Z I s' T locs cells slots h) (pc' : Nat) {x : Int32} (hd : decode bytes pc = .ok (.i2l, 1)) (hp : pc + 1 = pc') (hr : Go p e below G (T.setTop (mkF m pc' Ls (.long (x.toInt64) :: S)))) : Go p e below G (T.setTop (mkF m pc Ls (.int x :: S))) := by
  subst hp; exact Go.mono (fun t k => XS.i2l D.st.here D.ex rfl (hb D.cb hd) rfl k) hr
theorem g_l2i (D : Wk p l e R m args below meth c own bytes maxL Z I s' T locs cells slots h) (pc' : Nat) {x : Int64} (hd : decode bytes pc = .ok (.l2i, 1)) (hp : pc + 1 = pc') (hr : Go p e below G (T.setTop (mkF m pc' Ls (.int (x.toInt32) :: S)))) : Go p e below G (T.setTop (mkF m pc Ls (.long x :: S))) := by
  subst hp; exact Go.mono (fun t k => XS.l2i D.st.here D.ex rfl (hb D.cb hd) rfl k) hr
theorem g_i2b (D : Wk p l e R m args below meth c own bytes maxL Z I s' T locs cells slots h) (pc' : Nat) {x : Int32} (hd : decode bytes pc = .ok (.i2b, 1)) (hp : pc + 1 = pc') (hr : Go p e below G (T.setTop (mkF m pc' Ls (.int (x.toInt8.toInt32) :: S)))) : Go p e below G (T.setTop (mkF m pc Ls (.int x :: S))) := by
  subst hp; exact Go.mono (fun t k => XS.i2b D.st.here D.ex rfl (hb D.cb hd) rfl k) hr
theorem g_i2c (D : Wk p l e R m args below meth c own bytes maxL Z I s' T locs cells slots h) (pc' : Nat) {x : Int32} (hd : decode bytes pc = .ok (.i2c, 1)) (hp : pc + 1 = pc') (hr : Go p e below G (T.setTop (mkF m pc' Ls (.int (x.toUInt32.toUInt16.toUInt32.toInt32) :: S)))) : Go p e below G (T.setTop (mkF m pc Ls (.int x :: S))) := by
  subst hp; exact Go.mono (fun t k => XS.i2c D.st.here D.ex rfl (hb D.cb hd) rfl k) hr
theorem g_i2s (D : Wk p l e R m args below meth c own bytes maxL Z I s' T locs cells slots h) (pc' : Nat) {x : Int32} (hd : decode bytes pc = .ok (.i2s, 1)) (hp : pc + 1 = pc') (hr : Go p e below G (T.setTop (mkF m pc' Ls (.int (x.toInt16.toInt32) :: S)))) : Go p e below G (T.setTop (mkF m pc Ls (.int x :: S))) := by
  subst hp; exact Go.mono (fun t k => XS.i2s D.st.here D.ex rfl (hb D.cb hd) rfl k) hr
theorem g_lneg (D : Wk p l e R m args below meth c own bytes maxL Z I s' T locs cells slots h) (pc' : Nat) {x : Int64} (hd : decode bytes pc = .ok (.lneg, 1)) (hp : pc + 1 = pc') (hr : Go p e below G (T.setTop (mkF m pc' Ls (.long (-x) :: S)))) : Go p e below G (T.setTop (mkF m pc Ls (.long x :: S))) := by
  subst hp; exact Go.mono (fun t k => XS.lneg D.st.here D.ex rfl (hb D.cb hd) rfl k) hr
theorem g_dup (D : Wk p l e R m args below meth c own bytes maxL Z I s' T locs cells slots h) (pc' : Nat) {x : Value} (hd : decode bytes pc = .ok (.dup, 1)) (hc : x.category = 1) (hp : pc + 1 = pc') (hr : Go p e below G (T.setTop (mkF m pc' Ls (x :: x :: S)))) : Go p e below G (T.setTop (mkF m pc Ls (x :: S))) := by
  subst hp; exact Go.mono (fun t k => XS.dup D.st.here D.ex rfl (hb D.cb hd) rfl hc k) hr
theorem g_pop (D : Wk p l e R m args below meth c own bytes maxL Z I s' T locs cells slots h) (pc' : Nat) {x : Value} (hd : decode bytes pc = .ok (.pop, 1)) (hc : x.category = 1) (hp : pc + 1 = pc') (hr : Go p e below G (T.setTop (mkF m pc' Ls S))) : Go p e below G (T.setTop (mkF m pc Ls (x :: S))) := by
  subst hp; exact Go.mono (fun t k => XS.pop D.st.here D.ex rfl (hb D.cb hd) rfl hc k) hr
theorem g_dupX1 (D : Wk p l e R m args below meth c own bytes maxL Z I s' T locs cells slots h) (pc' : Nat) {x y : Value} (hd : decode bytes pc = .ok (.dup_x1, 1)) (hc : x.category = 1) (hc' : y.category = 1) (hp : pc + 1 = pc') (hr : Go p e below G (T.setTop (mkF m pc' Ls (x :: y :: x :: S)))) : Go p e below G (T.setTop (mkF m pc Ls (x :: y :: S))) := by
  subst hp; exact Go.mono (fun t k => XS.dupX1 D.st.here D.ex rfl (hb D.cb hd) rfl hc hc' k) hr
theorem g_dup2 (D : Wk p l e R m args below meth c own bytes maxL Z I s' T locs cells slots h) (pc' : Nat) {x y : Value} (hd : decode bytes pc = .ok (.dup2, 1)) (hc : x.category = 1) (hc' : y.category = 1) (hp : pc + 1 = pc') (hr : Go p e below G (T.setTop (mkF m pc' Ls (x :: y :: x :: y :: S)))) : Go p e below G (T.setTop (mkF m pc Ls (x :: y :: S))) := by
  subst hp; exact Go.mono (fun t k => XT.dup2 D.st.here D.ex rfl (hb D.cb hd) rfl hc hc' k) hr
theorem g_dup2L (D : Wk p l e R m args below meth c own bytes maxL Z I s' T locs cells slots h) (pc' : Nat) {x : Int64} (hd : decode bytes pc = .ok (.dup2, 1)) (hp : pc + 1 = pc') (hr : Go p e below G (T.setTop (mkF m pc' Ls (.long x :: .long x :: S)))) : Go p e below G (T.setTop (mkF m pc Ls (.long x :: S))) := by
  subst hp; exact Go.mono (fun t k => XT.dup2L D.st.here D.ex rfl (hb D.cb hd) rfl k) hr
theorem g_iinc (D : Wk p l e R m args below meth c own bytes maxL Z I s' T locs cells slots h) (pc' : Nat) {k : Nat} {cst : Int} {x : Int32} (v : Int32) (l' : Array Slot) (hd : decode bytes pc = .ok (.iinc k cst, 3)) (hv : Int32.ofInt cst = v) (hl : Ls[k]? = some (.val (.int x))) (hl' : storeLocals Ls k (.int (x + v)) = some l') (hp : pc + 3 = pc') (hr : Go p e below G (T.setTop (mkF m pc' l' S))) : Go p e below G (T.setTop (mkF m pc Ls S)) := by
  subst hp; subst hv; exact Go.mono (fun t k => XS.iinc D.st.here D.ex rfl (hb D.cb hd) hl hl' k) hr
theorem g_goto (D : Wk p l e R m args below meth c own bytes maxL Z I s' T locs cells slots h) (pc' : Nat) {o : Int} (hd : decode bytes pc = .ok (.goto o, 3)) (ho : 0 ≤ (pc : Int) + o) (hp : ((pc : Int) + o).toNat = pc') (hr : Go p e below G (T.setTop (mkF m pc' Ls S))) : Go p e below G (T.setTop (mkF m pc Ls S)) :=
  Go.mono (fun t k => XS.goto D.st.here D.ex rfl rfl (hb D.cb hd) ho hp k) hr
theorem g_icmpY (D : Wk p l e R m args below meth c own bytes maxL Z I s' T locs cells slots h) (pc' : Nat) {cd : ClassFile.Cond} {x y : Int32} {o : Int} (hd : decode bytes pc = .ok (.if_icmp cd o, 3)) (hc : if_icmp.holds cd x y = true) (ho : 0 ≤ (pc : Int) + o) (hp : ((pc : Int) + o).toNat = pc') (hr : Go p e below G (T.setTop (mkF m pc' Ls S))) : Go p e below G (T.setTop (mkF m pc Ls (.int y :: .int x :: S))) :=
  Go.mono (fun t k => XS.icmpYes D.st.here D.ex rfl rfl (hb D.cb hd) rfl hc ho hp k) hr
theorem g_icmpN (D : Wk p l e R m args below meth c own bytes maxL Z I s' T locs cells slots h) (pc' : Nat) {cd : ClassFile.Cond} {x y : Int32} {o : Int} (hd : decode bytes pc = .ok (.if_icmp cd o, 3)) (hc : if_icmp.holds cd x y = false) (hp : pc + 3 = pc') (hr : Go p e below G (T.setTop (mkF m pc' Ls S))) : Go p e below G (T.setTop (mkF m pc Ls (.int y :: .int x :: S))) := by
  subst hp; exact Go.mono (fun t k => XS.icmpNo D.st.here D.ex rfl (hb D.cb hd) rfl hc k) hr
theorem g_ifY (D : Wk p l e R m args below meth c own bytes maxL Z I s' T locs cells slots h) (pc' : Nat) {cd : ClassFile.Cond} {x : Int32} {o : Int} (hd : decode bytes pc = .ok (.ifCond cd o, 3)) (hc : if_icmp.holds cd x 0 = true) (ho : 0 ≤ (pc : Int) + o) (hp : ((pc : Int) + o).toNat = pc') (hr : Go p e below G (T.setTop (mkF m pc' Ls S))) : Go p e below G (T.setTop (mkF m pc Ls (.int x :: S))) :=
  Go.mono (fun t k => XS.ifYes D.st.here D.ex rfl rfl (hb D.cb hd) rfl ((if0 _ _).trans hc) ho hp k) hr
theorem g_ifN (D : Wk p l e R m args below meth c own bytes maxL Z I s' T locs cells slots h) (pc' : Nat) {cd : ClassFile.Cond} {x : Int32} {o : Int} (hd : decode bytes pc = .ok (.ifCond cd o, 3)) (hc : if_icmp.holds cd x 0 = false) (hp : pc + 3 = pc') (hr : Go p e below G (T.setTop (mkF m pc' Ls S))) : Go p e below G (T.setTop (mkF m pc Ls (.int x :: S))) := by
  subst hp; exact Go.mono (fun t k => XS.ifNo D.st.here D.ex rfl (hb D.cb hd) rfl ((if0 _ _).trans hc) k) hr
theorem g_nullY (D : Wk p l e R m args below meth c own bytes maxL Z I s' T locs cells slots h) (pc' : Nat) {o : Int} (hd : decode bytes pc = .ok (.ifnull o, 3)) (ho : 0 ≤ (pc : Int) + o) (hp : ((pc : Int) + o).toNat = pc') (hr : Go p e below G (T.setTop (mkF m pc' Ls S))) : Go p e below G (T.setTop (mkF m pc Ls (.null :: S))) :=
  Go.mono (fun t k => XS.ifnullYes D.st.here D.ex rfl rfl (hb D.cb hd) rfl ho hp k) hr
theorem g_nullN (D : Wk p l e R m args below meth c own bytes maxL Z I s' T locs cells slots h) (pc' : Nat) {o : Int} {b : Addr} (hd : decode bytes pc = .ok (.ifnull o, 3)) (hp : pc + 3 = pc') (hr : Go p e below G (T.setTop (mkF m pc' Ls S))) : Go p e below G (T.setTop (mkF m pc Ls (.ref b :: S))) := by
  subst hp; exact Go.mono (fun t k => XS.ifnullNo D.st.here D.ex rfl (hb D.cb hd) rfl k) hr
theorem g_nnY (D : Wk p l e R m args below meth c own bytes maxL Z I s' T locs cells slots h) (pc' : Nat) {o : Int} {b : Addr} (hd : decode bytes pc = .ok (.ifnonnull o, 3)) (ho : 0 ≤ (pc : Int) + o) (hp : ((pc : Int) + o).toNat = pc') (hr : Go p e below G (T.setTop (mkF m pc' Ls S))) : Go p e below G (T.setTop (mkF m pc Ls (.ref b :: S))) :=
  Go.mono (fun t k => XS.ifnonnullYes D.st.here D.ex rfl rfl (hb D.cb hd) rfl ho hp k) hr
theorem g_nnN (D : Wk p l e R m args below meth c own bytes maxL Z I s' T locs cells slots h) (pc' : Nat) {o : Int} (hd : decode bytes pc = .ok (.ifnonnull o, 3)) (hp : pc + 3 = pc') (hr : Go p e below G (T.setTop (mkF m pc' Ls S))) : Go p e below G (T.setTop (mkF m pc Ls (.null :: S))) := by
  subst hp; exact Go.mono (fun t k => XS.ifnonnullNo D.st.here D.ex rfl (hb D.cb hd) rfl k) hr
theorem g_acmp (D : Wk p l e R m args below meth c own bytes maxL Z I s' T locs cells slots h) (pc' : Nat) {cd : ACond} {x y : Value} {o : Int} (hd : decode bytes pc = .ok (.if_acmp cd o, 3)) (h1 : x.isRef = true) (h2 : y.isRef = true) {same : Bool} (hq : decide (x = y) = same) (ho : 0 ≤ (pc : Int) + o) (hp : pc' = if acV cd same = true then ((pc : Int) + o).toNat else pc + 3) (hr : Go p e below G (T.setTop (mkF m pc' Ls S))) : Go p e below G (T.setTop (mkF m pc Ls (y :: x :: S))) :=
  Go.mono (fun t k => Jvm.RoadKit.acmp (g := mkF m pc Ls (y :: x :: S)) D.st D.ex rfl h1 h2 rfl (hb D.cb hd) rfl hq ho hp k) hr
theorem g_ldcI (D : Wk p l e R m args below meth c own bytes maxL Z I s' T locs cells slots h) (pc' : Nat) {index : Nat} {v : Int32} (w : (Cond.constant own index v).before a0 Z = true) (hd : decode bytes pc = .ok (.ldc index, 2)) (hp : pc + 2 = pc') (hr : Go p e below G (T.setTop (mkF m pc' Ls (.int v :: S)))) : Go p e below G (T.setTop (mkF m pc Ls S)) := by
  subst hp; exact Go.mono (fun t k => Jvm.Stand.ldcI D.st D.ex D.ow (mv D.wm w) rfl (hb D.cb hd) k) hr
theorem g_ldcWI (D : Wk p l e R m args below meth c own bytes maxL Z I s' T locs cells slots h) (pc' : Nat) {index : Nat} {v : Int32} (w : (Cond.constant own index v).before a0 Z = true) (hd : decode bytes pc = .ok (.ldc_w index, 3)) (hp : pc + 3 = pc') (hr : Go p e below G (T.setTop (mkF m pc' Ls (.int v :: S)))) : Go p e below G (T.setTop (mkF m pc Ls S)) := by
  subst hp; exact Go.mono (fun t k => Jvm.Stand.ldcWI D.st D.ex D.ow (mv D.wm w) rfl (hb D.cb hd) k) hr
theorem g_ldc2J (D : Wk p l e R m args below meth c own bytes maxL Z I s' T locs cells slots h) (pc' : Nat) {index : Nat} {v : Int64} (w : (Cond.constantLong own index v).before a0 Z = true) (hd : decode bytes pc = .ok (.ldc2_w index, 3)) (hp : pc + 3 = pc') (hr : Go p e below G (T.setTop (mkF m pc' Ls (.long v :: S)))) : Go p e below G (T.setTop (mkF m pc Ls S)) := by
  subst hp; exact Go.mono (fun t k => Jvm.Stand.ldc2J D.st D.ex D.ow (mv D.wm w) rfl (hb D.cb hd) k) hr
theorem g_getF (D : Wk p l e R m args below meth c own bytes maxL Z I s' T locs cells slots h) (pc' : Nat) {R0 O n d : String} {index : Nat} (w : (Cond.fieldLink own index R0 n d).before a0 Z = true) (via : Via Z R0 O n d) {a : Addr} {v : Value} (F : Fld Z h a O n d v) (hd : decode bytes pc = .ok (.getfield index, 3)) (hp : pc + 3 = pc')
    (hr : ∀ T', Wk p l e R m args below meth c own bytes maxL Z I s' T' locs cells slots h → Go p e below G (T'.setTop (mkF m pc' Ls (v :: S)))) : Go p e below G (T.setTop (mkF m pc Ls (.ref a :: S))) := by
  subst hp
  obtain ⟨T', X', e', st⟩ := getF D.st D.ex D.wm D.ow (host := "") (Or.inl w) via D.eq F (g := mkF m pc Ls (.ref a :: S)) rfl rfl (hb D.cb hd)
  exact Go.mono st (hr T' (D.mk' X' e' D.iv))
theorem g_getS (D : Wk p l e R m args below meth c own bytes maxL Z I s' T locs cells slots h) (pc' : Nat) {R0 O n d : String} {index : Nat} (w : (Cond.fieldLink own index R0 n d).before a0 Z = true) (via : Via Z R0 O n d) {v : Value} (F : Sta Z h O n d v) (hd : decode bytes pc = .ok (.getstatic index, 3)) (hp : pc + 3 = pc')
    (hr : ∀ T', Wk p l e R m args below meth c own bytes maxL Z I s' T' locs cells slots h → Go p e below G (T'.setTop (mkF m pc' Ls (v :: S)))) : Go p e below G (T.setTop (mkF m pc Ls S)) := by
  subst hp
  obtain ⟨T', X', e', st⟩ := getS (host := "") D.st D.ex D.wm D.ow w via D.eq F (g := mkF m pc Ls S) rfl (hb D.cb hd)
  exact Go.mono st (hr T' (D.mk' X' e' D.iv))
theorem g_putF (D : Wk p l e R m args below meth c own bytes maxL Z I s' T locs cells slots h) (pc' : Nat) {R0 O n d C : String} {index kk : Nat} {ty : FieldType} (w : (Cond.fieldLink own index R0 n d).before a0 Z = true) (via : Via Z R0 O n d) {a : Addr} {v old : Value} (F : Fld Z h a O n d old) (E : Exa Z h a C)
    (L : (Cond.lays C O n d).before a0 Z = true ∨ ((Cond.laysFinal C O n d).before a0 Z = true ∧ own = O ∧ meth.name = "<init>")) (wi : (Cond.instantiable C kk).before a0 Z = true) (hty : parseFieldDescriptor d = some ty) (hn : narrow ty v = v) (hf : fits ty v = true)
    (hI : ∀ h', Wr h h' a (RoadKit.slotOf Z O n d) v → I s' h') (hd : decode bytes pc = .ok (.putfield index, 3)) (hp : pc + 3 = pc')
    (hr : ∀ T' h', Wr h h' a (RoadKit.slotOf Z O n d) v → Wk p l e R m args below meth c own bytes maxL Z I s' T' (locs ++ [⟨a, RoadKit.slotOf Z O n d⟩]) cells slots h' → Go p e below G (T'.setTop (mkF m pc' Ls S))) : Go p e below G (T.setTop (mkF m pc Ls (v :: .ref a :: S))) := by
  subst hp
  obtain ⟨T', h', X', e', W', st⟩ := putF D.st D.ex D.wm D.ow (host := "") (Or.inl w) via D.eq F E L wi hty hn hf (g := mkF m pc Ls (v :: .ref a :: S)) rfl rfl (hb D.cb hd)
  exact Go.mono st (hr T' h' W' (D.mk' X' e' (hI h' W')))
theorem g_newO (D : Wk p l e R m args below meth c own bytes maxL Z I s' T locs cells slots h) (pc' : Nat) {C : String} {index n : Nat} (w : (Cond.classLink own index C).before a0 Z = true) (wi : (Cond.instantiable C n).before a0 Z = true) (wz : (Cond.initialized C).before a0 Z = true) (hd : decode bytes pc = .ok (.new index, 3)) (hc : cells + 1 ≤ R.cells) (hl : slots + n ≤ R.slots) (hI : ∀ h', Ext h h' → I s' h') (hp : pc + 3 = pc')
    (hr : ∀ T' h' a, a = h.size → Ext h h' → Exa Z h' a C → (∀ {O nm d : String} {ty : FieldType}, Laid Z a0 C O nm d → parseFieldDescriptor d = some ty → Fld Z h' a O nm d (defaultValue ty)) → Wk p l e R m args below meth c own bytes maxL Z I s' T' locs (cells + 1) (slots + n) h' → Go p e below G (T'.setTop (mkF m pc' Ls (.ref a :: S)))) : Go p e below G (T.setTop (mkF m pc Ls S)) := by
  subst hp
  obtain ⟨T', h', X', e', E', A', D', -, st⟩ := newO D.st D.ex D.wm D.ow w wi wz D.eq (g := mkF m pc Ls S) rfl (hb D.cb hd) hc hl
  exact Go.mono st (hr T' h' _ rfl E' A' D' (D.mk' X' e' (hI h' E')))
theorem g_newP (D : Wk p l e R m args below meth c own bytes maxL Z I s' T locs cells slots h) (pc' : Nat) {aty : ArrayType} (w : (Cond.arrayClass (newarray.typeOf aty)).before a0 Z = true) {n : Int32} (hd : decode bytes pc = .ok (.newarray aty, 2)) (hn : ¬ n < 0) {cap : Nat} (hcap : n.toNatClampNeg ≤ cap) (hb' : cap * 8 ≤ 536870912) (hc : cells + 1 ≤ R.cells) (hl : slots + cap ≤ R.slots) (hI : ∀ h', Ext h h' → I s' h') (hp : pc + 2 = pc')
    (hr : ∀ T' h' a k, a = h.size → Ext h h' → Arv Z h' a k (newarray.typeOf aty) n [] (defaultValue (newarray.typeOf aty)) → Wk p l e R m args below meth c own bytes maxL Z I s' T' locs (cells + 1) (slots + cap) h' → Go p e below G (T'.setTop (mkF m pc' Ls (.ref a :: S)))) : Go p e below G (T.setTop (mkF m pc Ls (.int n :: S))) := by
  subst hp
  obtain ⟨T', h', k, X', e', E', A', st⟩ := newP D.st D.ex D.wm w D.eq (g := mkF m pc Ls (.int n :: S)) rfl (hb D.cb hd) rfl hn hcap hb' hc hl
  exact Go.mono st (hr T' h' _ k rfl E' (Arv.new A' hn) (D.mk' X' e' (hI h' E')))
theorem g_castY (D : Wk p l e R m args below meth c own bytes maxL Z I s' T locs cells slots h) (pc' : Nat) {K : String} {index : Nat} (w : (Cond.classLink own index K).before a0 Z = true) {a : Addr} (F : Ins Z h a K true) (hd : decode bytes pc = .ok (.checkcast index, 3)) (hp : pc + 3 = pc')
    (hr : ∀ T', Wk p l e R m args below meth c own bytes maxL Z I s' T' locs cells slots h → Go p e below G (T'.setTop (mkF m pc' Ls (.ref a :: S)))) : Go p e below G (T.setTop (mkF m pc Ls (.ref a :: S))) := by
  subst hp
  obtain ⟨T', X', e', st⟩ := castY D.st D.ex D.wm D.ow w D.eq F (g := mkF m pc Ls (.ref a :: S)) rfl rfl (hb D.cb hd)
  exact Go.mono st (hr T' (D.mk' X' e' D.iv))
theorem g_instY (D : Wk p l e R m args below meth c own bytes maxL Z I s' T locs cells slots h) (pc' : Nat) {K : String} {index : Nat} (w : (Cond.classLink own index K).before a0 Z = true) {a : Addr} (F : Ins Z h a K true) (hd : decode bytes pc = .ok (.instanceof index, 3)) (hp : pc + 3 = pc')
    (hr : ∀ T', Wk p l e R m args below meth c own bytes maxL Z I s' T' locs cells slots h → Go p e below G (T'.setTop (mkF m pc' Ls (.int 1 :: S)))) : Go p e below G (T.setTop (mkF m pc Ls (.ref a :: S))) := by
  subst hp
  obtain ⟨T', X', e', st⟩ := instY D.st D.ex D.wm D.ow w D.eq F (g := mkF m pc Ls (.ref a :: S)) rfl rfl (hb D.cb hd)
  exact Go.mono st (hr T' (D.mk' X' e' D.iv))
theorem g_instNo (D : Wk p l e R m args below meth c own bytes maxL Z I s' T locs cells slots h) (pc' : Nat) {K C : String} {index : Nat} (w : (Cond.classLink own index K).before a0 Z = true) {a : Addr} (E : Exa Z h a C) (F : ∃ c t, Z.vm.findClass C = some c ∧ Z.vm.findClass K = some t ∧ Z.vm.assignable c t = false) (hd : decode bytes pc = .ok (.instanceof index, 3)) (hp : pc + 3 = pc')
    (hr : ∀ T', Wk p l e R m args below meth c own bytes maxL Z I s' T' locs cells slots h → Go p e below G (T'.setTop (mkF m pc' Ls (.int 0 :: S)))) : Go p e below G (T.setTop (mkF m pc Ls (.ref a :: S))) := by
  subst hp
  obtain ⟨T', X', e', st⟩ := instNo D.st D.ex D.wm D.ow w D.eq E F (g := mkF m pc Ls (.ref a :: S)) rfl rfl (hb D.cb hd)
  exact Go.mono st (hr T' (D.mk' X' e' D.iv))
theorem g_instNull (D : Wk p l e R m args below meth c own bytes maxL Z I s' T locs cells slots h) (pc' : Nat) {index : Nat} (hd : decode bytes pc = .ok (.instanceof index, 3)) (hp : pc + 3 = pc') (hr : Go p e below G (T.setTop (mkF m pc' Ls (.int 0 :: S)))) : Go p e below G (T.setTop (mkF m pc Ls (.null :: S))) := by
  subst hp
  exact Go.mono (fun t k => D.st.instanceofNull D.ex (g := mkF m pc Ls (.null :: S)) rfl rfl (hb D.cb hd) t k) hr
theorem g_alen (D : Wk p l e R m args below meth c own bytes maxL Z I s' T locs cells slots h) (pc' : Nat) {a : Addr} {k : ClassId} {ty : FieldType} {n : Int32} {vs : List Value} {d : Value} (V : Arv Z h a k ty n vs d) (hd : decode bytes pc = .ok (.arraylength, 1)) (hp : pc + 1 = pc') (hr : Go p e below G (T.setTop (mkF m pc' Ls (.int n :: S)))) : Go p e below G (T.setTop (mkF m pc Ls (.ref a :: S))) := by
  subst hp
  obtain ⟨cl, A, -, q, q', -⟩ := V
  refine Go.mono (fun t k => D.st.arraylength D.ex (by rw [D.eq]; exact A.1) (State.isArrayOf_alike D.wm.alike A.2.1) (g := mkF m pc Ls (.ref a :: S)) rfl rfl (hb D.cb hd) t k) ?_
  rw [len_of q q']; exact hr
theorem g_caload (D : Wk p l e R m args below meth c own bytes maxL Z I s' T locs cells slots h) (pc' : Nat) {a : Addr} {k : ClassId} {n j : Int32} {vs : List Value} {d v : Value} (V : Arv Z h a k .char n vs d) (hj : ¬ j < 0 ∧ j < n) (hv : vs.getD j.toNatClampNeg d = v) (hd : decode bytes pc = .ok (.caload, 1)) (hp : pc + 1 = pc') (hr : Go p e below G (T.setTop (mkF m pc' Ls (v :: S)))) : Go p e below G (T.setTop (mkF m pc Ls (.int j :: .ref a :: S))) := by
  subst hp
  obtain ⟨cl, A, -, q, q', H, -⟩ := V
  exact Go.mono (fun t k => D.st.caload D.ex (by rw [D.eq]; exact A.1) (State.isArrayOf_alike D.wm.alike A.2.1) A.2.2 (inb_of q hj) (H.at (inb_of q hj) hv) (g := mkF m pc Ls (.int j :: .ref a :: S)) rfl rfl (hb D.cb hd) t k) hr
theorem g_baload (D : Wk p l e R m args below meth c own bytes maxL Z I s' T locs cells slots h) (pc' : Nat) {a : Addr} {k : ClassId} {n j : Int32} {vs : List Value} {d v : Value} (V : Arv Z h a k .byte n vs d) (hj : ¬ j < 0 ∧ j < n) (hv : vs.getD j.toNatClampNeg d = v) (hd : decode bytes pc = .ok (.baload, 1)) (hp : pc + 1 = pc') (hr : Go p e below G (T.setTop (mkF m pc' Ls (v :: S)))) : Go p e below G (T.setTop (mkF m pc Ls (.int j :: .ref a :: S))) := by
  subst hp
  obtain ⟨cl, A, -, q, q', H, -⟩ := V
  exact Go.mono (fun t k => D.st.baloadBytes D.ex (by rw [D.eq]; exact A.1) (State.isArrayOf_alike D.wm.alike A.2.1) A.2.2 (inb_of q hj) (H.at (inb_of q hj) hv) (g := mkF m pc Ls (.int j :: .ref a :: S)) rfl rfl (hb D.cb hd) t k) hr
theorem g_iaload (D : Wk p l e R m args below meth c own bytes maxL Z I s' T locs cells slots h) (pc' : Nat) {a : Addr} {k : ClassId} {n j : Int32} {vs : List Value} {d v : Value} (V : Arv Z h a k .int n vs d) (hj : ¬ j < 0 ∧ j < n) (hv : vs.getD j.toNatClampNeg d = v) (hd : decode bytes pc = .ok (.iaload, 1)) (hp : pc + 1 = pc') (hr : Go p e below G (T.setTop (mkF m pc' Ls (v :: S)))) : Go p e below G (T.setTop (mkF m pc Ls (.int j :: .ref a :: S))) := by
  subst hp
  obtain ⟨cl, A, -, q, q', H, -⟩ := V
  exact Go.mono (fun t k => D.st.iaload D.ex (by rw [D.eq]; exact A.1) (State.isArrayOf_alike D.wm.alike A.2.1) A.2.2 (inb_of q hj) (H.at (inb_of q hj) hv) (g := mkF m pc Ls (.int j :: .ref a :: S)) rfl rfl (hb D.cb hd) t k) hr
theorem g_laload (D : Wk p l e R m args below meth c own bytes maxL Z I s' T locs cells slots h) (pc' : Nat) {a : Addr} {k : ClassId} {n j : Int32} {vs : List Value} {d v : Value} (V : Arv Z h a k .long n vs d) (hj : ¬ j < 0 ∧ j < n) (hv : vs.getD j.toNatClampNeg d = v) (hd : decode bytes pc = .ok (.laload, 1)) (hp : pc + 1 = pc') (hr : Go p e below G (T.setTop (mkF m pc' Ls (v :: S)))) : Go p e below G (T.setTop (mkF m pc Ls (.int j :: .ref a :: S))) := by
  subst hp
  obtain ⟨cl, A, -, q, q', H, -⟩ := V
  exact Go.mono (fun t k => D.st.laload D.ex (by rw [D.eq]; exact A.1) (State.isArrayOf_alike D.wm.alike A.2.1) A.2.2 (inb_of q hj) (H.at (inb_of q hj) hv) (g := mkF m pc Ls (.int j :: .ref a :: S)) rfl rfl (hb D.cb hd) t k) hr
theorem g_aaload (D : Wk p l e R m args below meth c own bytes maxL Z I s' T locs cells slots h) (pc' : Nat) {a : Addr} {k : ClassId} {n j : Int32} {ty : FieldType} {vs : List Value} {d v : Value} (V : Arv Z h a k ty n vs d) (hty : ty.isReference = true) (hj : ¬ j < 0 ∧ j < n) (hv : vs.getD j.toNatClampNeg d = v) (hd : decode bytes pc = .ok (.aaload, 1)) (hp : pc + 1 = pc') (hr : Go p e below G (T.setTop (mkF m pc' Ls (v :: S)))) : Go p e below G (T.setTop (mkF m pc Ls (.int j :: .ref a :: S))) := by
  subst hp
  obtain ⟨cl, A, -, q, q', H, -⟩ := V
  exact Go.mono (fun t k => D.st.aaload D.ex (by rw [D.eq]; exact A.1) (State.isArrayOf_alike D.wm.alike A.2.1) hty A.2.2 (inb_of q hj) (H.at (inb_of q hj) hv) (g := mkF m pc Ls (.int j :: .ref a :: S)) rfl rfl (hb D.cb hd) t k) hr
theorem g_castore (D : Wk p l e R m args below meth c own bytes maxL Z I s' T locs cells slots h) (pc' : Nat) {a : Addr} {k : ClassId} {n j : Int32} {x : Int32} {vs : List Value} {d : Value} (V : Arv Z h a k .char n vs d) (hj : ¬ j < 0 ∧ j < n) (i : Nat) (hi : j.toNatClampNeg = i) (hv : i < vs.length) (hI : ∀ h', Wr h h' a j.toNatClampNeg (.int (nar .char x)) → I s' h') (hd : decode bytes pc = .ok (.castore, 1)) (hp : pc + 1 = pc')
    (hr : ∀ T' h', Wr h h' a j.toNatClampNeg (.int (nar .char x)) → Arv Z h' a k .char n (vs.set i (.int (nar .char x))) d → Wk p l e R m args below meth c own bytes maxL Z I s' T' (locs ++ [⟨a, j.toNatClampNeg⟩]) cells slots h' → Go p e below G (T'.setTop (mkF m pc' Ls S))) : Go p e below G (T.setTop (mkF m pc Ls (.int x :: .int j :: .ref a :: S))) := by
  subst hp
  obtain ⟨cl, A, q1, q, q', H, F⟩ := V
  obtain ⟨T', h', X', e', W', st⟩ := stC D.st D.ex D.wm D.eq A (inb_of q hj) (g := mkF m pc Ls (.int x :: .int j :: .ref a :: S)) rfl rfl (hb D.cb hd)
  exact Go.mono st (hr T' h' W' (Arv.set A q1 q q' H F (fits_nar_char _) W' i hi hv) (D.mk' X' e' (hI h' W')))
theorem g_bastore (D : Wk p l e R m args below meth c own bytes maxL Z I s' T locs cells slots h) (pc' : Nat) {a : Addr} {k : ClassId} {n j : Int32} {x : Int32} {vs : List Value} {d : Value} (V : Arv Z h a k .byte n vs d) (hj : ¬ j < 0 ∧ j < n) (i : Nat) (hi : j.toNatClampNeg = i) (hv : i < vs.length) (hI : ∀ h', Wr h h' a j.toNatClampNeg (.int (nar .byte x)) → I s' h') (hd : decode bytes pc = .ok (.bastore, 1)) (hp : pc + 1 = pc')
    (hr : ∀ T' h', Wr h h' a j.toNatClampNeg (.int (nar .byte x)) → Arv Z h' a k .byte n (vs.set i (.int (nar .byte x))) d → Wk p l e R m args below meth c own bytes maxL Z I s' T' (locs ++ [⟨a, j.toNatClampNeg⟩]) cells slots h' → Go p e below G (T'.setTop (mkF m pc' Ls S))) : Go p e below G (T.setTop (mkF m pc Ls (.int x :: .int j :: .ref a :: S))) := by
  subst hp
  obtain ⟨cl, A, q1, q, q', H, F⟩ := V
  obtain ⟨T', h', X', e', W', st⟩ := stB D.st D.ex D.wm D.eq A (inb_of q hj) (g := mkF m pc Ls (.int x :: .int j :: .ref a :: S)) rfl rfl (hb D.cb hd)
  exact Go.mono st (hr T' h' W' (Arv.set A q1 q q' H F (fits_nar_byte _) W' i hi hv) (D.mk' X' e' (hI h' W')))
theorem g_iastore (D : Wk p l e R m args below meth c own bytes maxL Z I s' T locs cells slots h) (pc' : Nat) {a : Addr} {k : ClassId} {n j : Int32} {x : Int32} {vs : List Value} {d : Value} (V : Arv Z h a k .int n vs d) (hj : ¬ j < 0 ∧ j < n) (i : Nat) (hi : j.toNatClampNeg = i) (hv : i < vs.length) (hI : ∀ h', Wr h h' a j.toNatClampNeg (.int x) → I s' h') (hd : decode bytes pc = .ok (.iastore, 1)) (hp : pc + 1 = pc')
    (hr : ∀ T' h', Wr h h' a j.toNatClampNeg (.int x) → Arv Z h' a k .int n (vs.set i (.int x)) d → Wk p l e R m args below meth c own bytes maxL Z I s' T' (locs ++ [⟨a, j.toNatClampNeg⟩]) cells slots h' → Go p e below G (T'.setTop (mkF m pc' Ls S))) : Go p e below G (T.setTop (mkF m pc Ls (.int x :: .int j :: .ref a :: S))) := by
  subst hp
  obtain ⟨cl, A, q1, q, q', H, F⟩ := V
  obtain ⟨T', h', X', e', W', st⟩ := stI D.st D.ex D.wm D.eq A (inb_of q hj) (g := mkF m pc Ls (.int x :: .int j :: .ref a :: S)) rfl rfl (hb D.cb hd)
  exact Go.mono st (hr T' h' W' (Arv.set A q1 q q' H F rfl W' i hi hv) (D.mk' X' e' (hI h' W')))
theorem g_lastore (D : Wk p l e R m args below meth c own bytes maxL Z I s' T locs cells slots h) (pc' : Nat) {a : Addr} {k : ClassId} {n j : Int32} {x : Int64} {vs : List Value} {d : Value} (V : Arv Z h a k .long n vs d) (hj : ¬ j < 0 ∧ j < n) (i : Nat) (hi : j.toNatClampNeg = i) (hv : i < vs.length) (hI : ∀ h', Wr h h' a j.toNatClampNeg (.long x) → I s' h') (hd : decode bytes pc = .ok (.lastore, 1)) (hp : pc + 1 = pc')
    (hr : ∀ T' h', Wr h h' a j.toNatClampNeg (.long x) → Arv Z h' a k .long n (vs.set i (.long x)) d → Wk p l e R m args below meth c own bytes maxL Z I s' T' (locs ++ [⟨a, j.toNatClampNeg⟩]) cells slots h' → Go p e below G (T'.setTop (mkF m pc' Ls S))) : Go p e below G (T.setTop (mkF m pc Ls (.long x :: .int j :: .ref a :: S))) := by
  subst hp
  obtain ⟨cl, A, q1, q, q', H, F⟩ := V
  obtain ⟨T', h', X', e', W', st⟩ := stJ D.st D.ex D.wm D.eq A (inb_of q hj) (g := mkF m pc Ls (.long x :: .int j :: .ref a :: S)) rfl rfl (hb D.cb hd)
  exact Go.mono st (hr T' h' W' (Arv.set A q1 q q' H F rfl W' i hi hv) (D.mk' X' e' (hI h' W')))
theorem g_initO (D : Wk p l e R m args below meth c own bytes maxL Z I s' T locs cells slots h) (pc' : Nat) {idx : Nat} (w1 : (Cond.methodLink own idx Lib.objectInit).before a0 Z = true) (w2 : (Cond.instanceMethod Lib.objectInit).before a0 Z = true) (w3 : (Cond.code Lib.objectInit ⟨#[0xb1]⟩ 1 none).before a0 Z = true) (hsz : Ls.size = maxL) {a : Addr} (hd : decode bytes pc = .ok (.invokespecial idx, 3)) (hf : 1 ≤ R.frames) {W : Nat} (hW : (S.map fun v => v.category).sum ≤ W) (hl : W + 12 ≤ R.locals) (hp : pc + 3 = pc')
    (hr : ∀ T', Wk p l e R m args below meth c own bytes maxL Z I s' T' locs cells slots h → Go p e below G (T'.setTop (mkF m pc' Ls S))) : Go p e below G (T.setTop (mkF m pc Ls (.ref a :: S))) := by
  subst hp
  obtain ⟨T', X', e', st⟩ := initO D.st D.ex D.wm D.ow w1 w2 w3 D.eq (g := mkF m pc Ls (.ref a :: S)) rfl (by rw [D.ml]; exact hsz) rfl (hb D.cb hd) hf (W := W) (by simpa using hW) hl
  exact Go.mono st (hr T' (D.mk' X' e' D.iv))
theorem g_clone (D : Wk p l e R m args below meth c own bytes maxL Z I s' T locs cells slots h) (pc' : Nat) {ad : String} {index : Nat} (w1 : (Cond.methodLink own index ⟨ad, "clone", "()Ljava/lang/Object;"⟩).before a0 Z = true) (w2 : (Cond.sameMethod ad "java/lang/Object" "clone" "()Ljava/lang/Object;").before a0 Z = true) (w3 : (Cond.native ⟨"java/lang/Object", "clone", "()Ljava/lang/Object;"⟩).before a0 Z = true) (w4 : (Cond.instanceMethod ⟨"java/lang/Object", "clone", "()Ljava/lang/Object;"⟩).before a0 Z = true) (w5 : (Cond.selects ad ⟨ad, "clone", "()Ljava/lang/Object;"⟩ ⟨"java/lang/Object", "clone", "()Ljava/lang/Object;"⟩).before a0 Z = true) (w6 : (Cond.castable ad "java/lang/Cloneable").before a0 Z = true)
    {a : Addr} {k : ClassId} {ty : FieldType} {z : Int32} {vs : List Value} {dv : Value} (F : Arv Z h a k ty z vs dv) (E : Exa Z h a ad) (hsz : Ls.size = maxL) (hd : decode bytes pc = .ok (.invokevirtual index, 3)) (hf : 1 ≤ R.frames) {W cap : Nat} (hW : (S.map fun v => v.category).sum ≤ W) (hl : W + 14 ≤ R.locals) (hcap : z.toNatClampNeg ≤ cap) (hc : cells + 1 ≤ R.cells) (hsl : slots + cap ≤ R.slots) (hI : ∀ h', Ext h h' → I s' h') (hp : pc + 3 = pc')
    (hr : ∀ T' h' b, b = h.size → Ext h h' → Arv Z h' b k ty z vs dv → Exa Z h' b ad → Wk p l e R m args below meth c own bytes maxL Z I s' T' locs (cells + 1) (slots + cap) h' → Go p e below G (T'.setTop (mkF m pc' Ls (.ref b :: S)))) : Go p e below G (T.setTop (mkF m pc Ls (.ref a :: S))) := by
  subst hp
  obtain ⟨T', h', X', e', E', A', B', st⟩ := cloneH D.st D.ex D.wm D.ow w1 w2 w3 w4 w5 w6 D.eq F.arh E (g := mkF m pc Ls (.ref a :: S)) rfl (by rw [D.ml]; exact hsz) rfl (hb D.cb hd) hf (by simpa using hW) hl hcap hc hsl
  exact Go.mono st (hr T' h' _ rfl E' A' B' (D.mk' X' e' (hI h' E')))
theorem g_callS (D : Wk p l e R m args below meth c own bytes maxL Z I s' T locs cells slots h) (pc' : Nat) {index : Nat} {y : MethodName} {bz : ByteArray} {mL : Nat} {ret' : Option FieldType} {W ck sk : Nat} {as' : Array Value} {Q : Option Value → Heap → List Loc → Prop} (w1 : (Cond.methodLink own index y).before a0 Z = true) (w2 : (Cond.static y).before a0 Z = true) (w3 : (Cond.initialized y.cls).before a0 Z = true) (w4 : (Cond.code y bz mL ret').before a0 Z = true) (hy : y.cls ≠ "java/lang/invoke/MethodHandle" ∧ y.cls ≠ "java/lang/invoke/VarHandle")
    (K : Back l R p e below s' args y 3 W (fun A a => a = as' ∧ A.U.heap = h ∧ A.cells + ck ≤ R.cells ∧ A.slots + sk ≤ R.slots) (fun A _ v B => ∃ L, Q v B.U.heap L ∧ B.locs = A.locs ++ L ∧ B.cells = A.cells + ck ∧ B.slots = A.slots + sk)) (hsz : Ls.size = maxL) (argsL : List Value) (has : argsL.toArray = as') (hlen : ∀ sig, parseMethodDescriptor y.desc = some sig → argsL.length = sig.parameters.length) {S0 : List Value} (hst : S0 = argsL.reverse ++ S) (hW : (S.map fun v => v.category).sum ≤ W) (hc : cells + ck ≤ R.cells) (hl : slots + sk ≤ R.slots) (hI : ∀ v h' L, Q v h' L → I s' h') (hd : decode bytes pc = .ok (.invokestatic index, 3)) (hp : pc + 3 = pc')
    (hr : ∀ v T' h' L, Q v h' L → Wk p l e R m args below meth c own bytes maxL Z I s' T' (locs ++ L) (cells + ck) (slots + sk) h' → Go p e below G (T'.setTop (mkF m pc' Ls (v.toList ++ S)))) : Go p e below G (T.setTop (mkF m pc Ls S0)) := by
  subst hp hst
  obtain ⟨v, _, ⟨T', L', k', n'⟩, -, X', ⟨L, hQ, l', y', z'⟩, st⟩ := Jvm.LawKit.callS D.st D.ex D.ow (mvT D.wm w1) (mvT D.wm w2) (mvT D.wm w3) (mvT D.wm w4) hy K (g := mkF m pc Ls (argsL.reverse ++ S)) rfl (by rw [D.ml]; exact hsz) (argsL := argsL) (rest := S) hlen rfl (by simpa using hW) (hb D.cb hd) (fun _ _ => ⟨has, D.eq, hc, hl⟩)
  dsimp only at X' l' y' z' st hQ
  subst l' y' z'
  exact Go.mono st (hr v T' _ L hQ (D.mk' X' rfl (hI v _ L hQ)))
theorem g_callV (D : Wk p l e R m args below meth c own bytes maxL Z I s' T locs cells slots h) (pc' : Nat) {index : Nat} {y z : MethodName} {C : String} {W ck sk : Nat} {as' : Array Value} {Q : Option Value → Heap → List Loc → Prop} (w1 : (Cond.methodLink own index y).before a0 Z = true) (w2 : (Cond.declares y).before a0 Z = true) (w3 : (Cond.selects y.cls y y).before a0 Z = true) (w4 : (Cond.selects C y z).before a0 Z = true) (w5 : (Cond.instanceMethod z).before a0 Z = true) (hy : y.cls ≠ "java/lang/invoke/MethodHandle" ∧ y.cls ≠ "java/lang/invoke/VarHandle")
    (K : Back l R p e below s' args z 3 W (fun A a => a = as' ∧ A.U.heap = h ∧ A.cells + ck ≤ R.cells ∧ A.slots + sk ≤ R.slots) (fun A _ v B => ∃ L, Q v B.U.heap L ∧ B.locs = A.locs ++ L ∧ B.cells = A.cells + ck ∧ B.slots = A.slots + sk)) {b : Addr} (E : Exa Z h b C) (hsz : Ls.size = maxL) (argsL : List Value) (has : (.ref b :: argsL).toArray = as') (hlen : ∀ sig, parseMethodDescriptor y.desc = some sig → argsL.length = sig.parameters.length) {S0 : List Value} (hst : S0 = argsL.reverse ++ .ref b :: S) (hW : (S.map fun v => v.category).sum ≤ W) (hc : cells + ck ≤ R.cells) (hl : slots + sk ≤ R.slots) (hI : ∀ v h' L, Q v h' L → I s' h') (hd : decode bytes pc = .ok (.invokevirtual index, 3)) (hp : pc + 3 = pc')
    (hr : ∀ v T' h' L, Q v h' L → Wk p l e R m args below meth c own bytes maxL Z I s' T' (locs ++ L) (cells + ck) (slots + sk) h' → Go p e below G (T'.setTop (mkF m pc' Ls (v.toList ++ S)))) : Go p e below G (T.setTop (mkF m pc Ls S0)) := by
  subst hp hst
  obtain ⟨cq, kq, qa, qb, qc⟩ := isOf D.wm D.eq E
  obtain ⟨v, _, ⟨T', L', k', n'⟩, -, X', ⟨L, hQ, l', y', z'⟩, st⟩ := D.st.virtualBack D.ex (y := y) (z := z) D.ow (mvT D.wm w1) (mvT D.wm w2) (notFace_of_selects (args := #[]) (mvT D.wm w3)) (mvT D.wm w4) (mvT D.wm w5) hy K qa qc (g := mkF m pc Ls (argsL.reverse ++ .ref b :: S)) rfl (by rw [D.ml]; exact hsz) (Steps.refl _) (argsL := argsL) (rest := S) hlen rfl (by simpa using hW) (hb D.cb hd) (fun _ _ => ⟨has, D.eq, hc, hl⟩)
  dsimp only at X' l' y' z' st hQ
  subst l' y' z'
  exact Go.mono (fun t k => st.trans k) (hr v T' _ L hQ (D.mk' X' rfl (hI v _ L hQ)))
theorem g_callN (D : Wk p l e R m args below meth c own bytes maxL Z I s' T locs cells slots h) (pc' : Nat) {index : Nat} {y : MethodName} {bz : ByteArray} {mL : Nat} {W ck sk : Nat} {as' : Array Value} {Q : Option Value → Heap → List Loc → Prop} (hy1 : y.name = "<init>") (w1 : (Cond.methodLink own index y).before a0 Z = true) (w2 : (Cond.instanceMethod y).before a0 Z = true) (w3 : (Cond.code y bz mL none).before a0 Z = true) (hy : y.cls ≠ "java/lang/invoke/MethodHandle" ∧ y.cls ≠ "java/lang/invoke/VarHandle")
    (K : Back l R p e below s' args y 3 W (fun A a => a = as' ∧ A.U.heap = h ∧ A.cells + ck ≤ R.cells ∧ A.slots + sk ≤ R.slots) (fun A _ v B => ∃ L, Q v B.U.heap L ∧ B.locs = A.locs ++ L ∧ B.cells = A.cells + ck ∧ B.slots = A.slots + sk)) {b : Addr} (hsz : Ls.size = maxL) (argsL : List Value) (has : (.ref b :: argsL).toArray = as') (hlen : ∀ sig, parseMethodDescriptor y.desc = some sig → argsL.length = sig.parameters.length) {S0 : List Value} (hst : S0 = argsL.reverse ++ .ref b :: S) (hW : (S.map fun v => v.category).sum ≤ W) (hc : cells + ck ≤ R.cells) (hl : slots + sk ≤ R.slots) (hI : ∀ v h' L, Q v h' L → I s' h') (hd : decode bytes pc = .ok (.invokespecial index, 3)) (hp : pc + 3 = pc')
    (hr : ∀ v T' h' L, Q v h' L → Wk p l e R m args below meth c own bytes maxL Z I s' T' (locs ++ L) (cells + ck) (slots + sk) h' → Go p e below G (T'.setTop (mkF m pc' Ls (v.toList ++ S)))) : Go p e below G (T.setTop (mkF m pc Ls S0)) := by
  subst hp hst
  obtain ⟨v, _, ⟨T', L', k', n'⟩, -, X', ⟨L, hQ, l', y', z'⟩, st⟩ := D.st.specialBack D.ex (y := y) hy1 D.ow (mvT D.wm w1) (mvT D.wm w2) (mvT D.wm w3) hy K (g := mkF m pc Ls (argsL.reverse ++ .ref b :: S)) rfl (by rw [D.ml]; exact hsz) (Steps.refl _) (a := b) (argsL := argsL) (rest := S) hlen rfl (by simpa using hW) (hb D.cb hd) (fun _ _ => ⟨has, D.eq, hc, hl⟩)
  dsimp only at X' l' y' z' st hQ
  subst l' y' z'
  exact Go.mono (fun t k => st.trans k) (hr v T' _ L hQ (D.mk' X' rfl (hI v _ L hQ)))
theorem g_callNN (D : Wk p l e R m args below meth c own bytes maxL Z I s' T locs cells slots h) (pc' : Nat) {index : Nat} {host : String} {y : MethodName} {bz : ByteArray} {mL : Nat} {W ck sk : Nat} {as' : Array Value} {Q : Option Value → Heap → List Loc → Prop} (hy1 : y.name = "<init>") (w1 : (Cond.methodLinkNest own index y host).before a0 Z = true) (w2 : (Cond.instanceMethod y).before a0 Z = true) (w3 : (Cond.code y bz mL none).before a0 Z = true) (hy : y.cls ≠ "java/lang/invoke/MethodHandle" ∧ y.cls ≠ "java/lang/invoke/VarHandle")
    (K : Back l R p e below s' args y 3 W (fun A a => a = as' ∧ A.U.heap = h ∧ A.cells + ck ≤ R.cells ∧ A.slots + sk ≤ R.slots) (fun A _ v B => ∃ L, Q v B.U.heap L ∧ B.locs = A.locs ++ L ∧ B.cells = A.cells + ck ∧ B.slots = A.slots + sk)) {b : Addr} (hsz : Ls.size = maxL) (argsL : List Value) (has : (.ref b :: argsL).toArray = as') (hlen : ∀ sig, parseMethodDescriptor y.desc = some sig → argsL.length = sig.parameters.length) {S0 : List Value} (hst : S0 = argsL.reverse ++ .ref b :: S) (hW : (S.map fun v => v.category).sum ≤ W) (hc : cells + ck ≤ R.cells) (hl : slots + sk ≤ R.slots) (hI : ∀ v h' L, Q v h' L → I s' h') (hd : decode bytes pc = .ok (.invokespecial index, 3)) (hp : pc + 3 = pc')
    (hr : ∀ v T' h' L, Q v h' L → Wk p l e R m args below meth c own bytes maxL Z I s' T' (locs ++ L) (cells + ck) (slots + sk) h' → Go p e below G (T'.setTop (mkF m pc' Ls (v.toList ++ S)))) : Go p e below G (T.setTop (mkF m pc Ls S0)) := by
  subst hp hst
  obtain ⟨v, _, ⟨T', L', k', n'⟩, -, X', ⟨L, hQ, l', y', z'⟩, st⟩ := D.st.specialBackNest D.ex (y := y) hy1 D.ow (Cond.methodLinkNest_wide D.wm w1 :) (mvT D.wm w2) (mvT D.wm w3) hy K (g := mkF m pc Ls (argsL.reverse ++ .ref b :: S)) rfl (by rw [D.ml]; exact hsz) (Steps.refl _) (a := b) (argsL := argsL) (rest := S) hlen rfl (by simpa using hW) (hb D.cb hd) (fun _ _ => ⟨has, D.eq, hc, hl⟩)
  dsimp only at X' l' y' z' st hQ
  subst l' y' z'
  exact Go.mono (fun t k => st.trans k) (hr v T' _ L hQ (D.mk' X' rfl (hI v _ L hQ)))
theorem g_newPE (D : Wk p l e R m args below meth c own bytes maxL Z I s' T locs cells slots h) (pc' : Nat) {aty : ArrayType} (w : (Cond.arrayClass (newarray.typeOf aty)).before a0 Z = true) {n : Int32} (hd : decode bytes pc = .ok (.newarray aty, 2)) (hn : ¬ n < 0) {cap : Nat} (hcap : n.toNatClampNeg ≤ cap) (hb' : cap * 8 ≤ 536870912) (hc : cells + 1 ≤ R.cells) (hl : slots + cap ≤ R.slots) {ad : String} (had : "[" ++ (newarray.typeOf aty).toString = ad) (hI : ∀ h', Ext h h' → I s' h') (hp : pc + 2 = pc')
    (hr : ∀ T' h' a k, a = h.size → Ext h h' → Arv Z h' a k (newarray.typeOf aty) n [] (defaultValue (newarray.typeOf aty)) → Exa Z h' a ad → Wk p l e R m args below meth c own bytes maxL Z I s' T' locs (cells + 1) (slots + cap) h' → Go p e below G (T'.setTop (mkF m pc' Ls (.ref a :: S)))) : Go p e below G (T.setTop (mkF m pc Ls (.int n :: S))) := by
  subst hp
  obtain ⟨T', h', k, X', e', E', A', B', st⟩ := newPE D.st D.ex D.wm w D.eq (g := mkF m pc Ls (.int n :: S)) rfl (hb D.cb hd) rfl hn hcap hb' hc hl had
  exact Go.mono st (hr T' h' _ k rfl E' (Arv.new A' hn) B' (D.mk' X' e' (hI h' E')))
theorem g_cpA (D : Wk p l e R m args below meth c own bytes maxL Z I s' T locs cells slots h) (pc' : Nat) {index : Nat} (w1 : (Cond.methodLink own index Jvm.Stand.acN).before a0 Z = true) (w2 : (Cond.native Jvm.Stand.acN).before a0 Z = true) (w3 : (Cond.static Jvm.Stand.acN).before a0 Z = true) (w4 : (Cond.initialized "java/lang/System").before a0 Z = true) {a b : Addr} {k k' : ClassId} {ty : FieldType} {z z' sp dp nn : Int32} {vs vd : List Value} {dv dd : Value} (us : List Value) (A : Arv Z h a k ty z vs dv) (B : Arv Z h b k' ty z' vd dd) (hty : refKind ty = false)
    (h1 : ¬ sp < 0) (h2 : ¬ dp < 0) (h3 : ¬ nn < 0) (h4 : sp.toNatClampNeg + nn.toNatClampNeg ≤ z.toNatClampNeg) (h5 : dp.toNatClampNeg + nn.toNatClampNeg ≤ z'.toNatClampNeg) (hus : us = (List.range nn.toNatClampNeg).map fun i => vs.getD (sp.toNatClampNeg + i) dv) (hl : dp.toNatClampNeg + nn.toNatClampNeg ≤ vd.length) {n0 : Nat} (N : Fr n0 locs) (ge : n0 ≤ b) (hsz : Ls.size = maxL) (hd : decode bytes pc = .ok (.invokestatic index, 3)) (hf : 1 ≤ R.frames) {W : Nat} (hW : (S.map fun v => v.category).sum ≤ W) (hlo : W + (nativeFrameWords "java/lang/System" "arraycopy" 5 + 11) ≤ R.locals) (hI : ∀ h', Keep h h' [b] → I s' h') (hp : pc + 3 = pc')
    (hr : ∀ T' h' L, Fr n0 L → Keep h h' [b] → Arv Z h' b k' ty z' (vd.take dp.toNatClampNeg ++ us ++ vd.drop (dp.toNatClampNeg + nn.toNatClampNeg)) dd → Wk p l e R m args below meth c own bytes maxL Z I s' T' L cells slots h' → Go p e below G (T'.setTop (mkF m pc' Ls S))) : Go p e below G (T.setTop (mkF m pc Ls (.int nn :: .int dp :: .ref b :: .int sp :: .ref a :: S))) := by
  subst hp
  obtain ⟨T', h', L, X', e', N', K', A', st⟩ := cpA D.st D.ex D.wm D.ow w1 w2 w3 w4 D.eq A B (Or.inl ⟨rfl, hty⟩) h1 h2 h3 h4 h5 hus hl N ge (g := mkF m pc Ls (.int nn :: .int dp :: .ref b :: .int sp :: .ref a :: S)) rfl (by rw [D.ml]; exact hsz) rfl (hb D.cb hd) hf (by simpa using hW) hlo
  exact Go.mono st (hr T' h' L N' K' A' (D.mk' X' e' (hI h' K')))
theorem g_callSp (D : Wk p l e R m args below meth c own bytes maxL Z I s' T locs cells slots h) (pc' : Nat) {index : Nat} {y : MethodName} {bz : ByteArray} {mL : Nat} {ret' : Option FieldType} {W ck sk : Nat} {as' : Array Value} {Pv : Option Value → Prop} (w1 : (Cond.methodLink own index y).before a0 Z = true) (w2 : (Cond.static y).before a0 Z = true) (w3 : (Cond.initialized y.cls).before a0 Z = true) (w4 : (Cond.code y bz mL ret').before a0 Z = true) (hy : y.cls ≠ "java/lang/invoke/MethodHandle" ∧ y.cls ≠ "java/lang/invoke/VarHandle")
    (K : Back l R p e below s' args y 3 W (fun A a => a = as' ∧ A.U.heap = h ∧ A.cells + ck ≤ R.cells ∧ A.slots + sk ≤ R.slots) (fun A _ v B => ∃ L, (Pv v ∧ L = [] ∧ B.U.heap = h) ∧ B.locs = A.locs ++ L ∧ B.cells = A.cells + ck ∧ B.slots = A.slots + sk)) (hsz : Ls.size = maxL) (argsL : List Value) (has : argsL.toArray = as') (hlen : ∀ sig, parseMethodDescriptor y.desc = some sig → argsL.length = sig.parameters.length) {S0 : List Value} (hst : S0 = argsL.reverse ++ S) (hW : (S.map fun v => v.category).sum ≤ W) (hc : cells + ck ≤ R.cells) (hl : slots + sk ≤ R.slots) (hd : decode bytes pc = .ok (.invokestatic index, 3)) (hp : pc + 3 = pc')
    (hr : ∀ v T', Pv v → Wk p l e R m args below meth c own bytes maxL Z I s' T' locs (cells + ck) (slots + sk) h → Go p e below G (T'.setTop (mkF m pc' Ls (v.toList ++ S)))) : Go p e below G (T.setTop (mkF m pc Ls S0)) := by
  refine g_callS D pc' (Q := fun v h' L => Pv v ∧ L = [] ∧ h' = h) w1 w2 w3 w4 hy K hsz argsL has hlen hst hW hc hl (fun v h' L q => q.2.2 ▸ D.iv) hd hp ?_
  intro v T' h' L q D'
  obtain ⟨q1, q2, q3⟩ := q
  subst q2 q3
  rw [List.append_nil] at D'
  exact hr v T' q1 D'
theorem g_callVp (D : Wk p l e R m args below meth c own bytes maxL Z I s' T locs cells slots h) (pc' : Nat) {index : Nat} {y z : MethodName} {C : String} {W ck sk : Nat} {as' : Array Value} {Pv : Option Value → Prop} (w1 : (Cond.methodLink own index y).before a0 Z = true) (w2 : (Cond.declares y).before a0 Z = true) (w3 : (Cond.selects y.cls y y).before a0 Z = true) (w4 : (Cond.selects C y z).before a0 Z = true) (w5 : (Cond.instanceMethod z).before a0 Z = true) (hy : y.cls ≠ "java/lang/invoke/MethodHandle" ∧ y.cls ≠ "java/lang/invoke/VarHandle")
    (K : Back l R p e below s' args z 3 W (fun A a => a = as' ∧ A.U.heap = h ∧ A.cells + ck ≤ R.cells ∧ A.slots + sk ≤ R.slots) (fun A _ v B => ∃ L, (Pv v ∧ L = [] ∧ B.U.heap = h) ∧ B.locs = A.locs ++ L ∧ B.cells = A.cells + ck ∧ B.slots = A.slots + sk)) {b : Addr} (E : Exa Z h b C) (hsz : Ls.size = maxL) (argsL : List Value) (has : (.ref b :: argsL).toArray = as') (hlen : ∀ sig, parseMethodDescriptor y.desc = some sig → argsL.length = sig.parameters.length) {S0 : List Value} (hst : S0 = argsL.reverse ++ .ref b :: S) (hW : (S.map fun v => v.category).sum ≤ W) (hc : cells + ck ≤ R.cells) (hl : slots + sk ≤ R.slots) (hd : decode bytes pc = .ok (.invokevirtual index, 3)) (hp : pc + 3 = pc')
    (hr : ∀ v T', Pv v → Wk p l e R m args below meth c own bytes maxL Z I s' T' locs (cells + ck) (slots + sk) h → Go p e below G (T'.setTop (mkF m pc' Ls (v.toList ++ S)))) : Go p e below G (T.setTop (mkF m pc Ls S0)) := by
  refine g_callV D pc' (Q := fun v h' L => Pv v ∧ L = [] ∧ h' = h) w1 w2 w3 w4 w5 hy K E hsz argsL has hlen hst hW hc hl (fun v h' L q => q.2.2 ▸ D.iv) hd hp ?_
  intro v T' h' L q D'
  obtain ⟨q1, q2, q3⟩ := q
  subst q2 q3
  rw [List.append_nil] at D'
  exact hr v T' q1 D'
theorem clt_t {x y : Int64} (h : x < y) : XT.cmpL x y < 0 := by have := Int64.lt_iff_toInt_lt.mp h; unfold XT.cmpL; split <;> (try split) <;> simp_all [Int64.lt_iff_toInt_lt, ← Int64.toInt_inj] <;> omega
theorem clt_f {x y : Int64} (h : ¬ x < y) : ¬ XT.cmpL x y < 0 := by unfold XT.cmpL; split <;> (try split) <;> simp_all [Int64.lt_iff_toInt_lt, ← Int64.toInt_inj] <;> omega
theorem cgt_t {x y : Int64} (h : y < x) : 0 < XT.cmpL x y := by unfold XT.cmpL; split <;> (try split) <;> simp_all [Int64.lt_iff_toInt_lt, ← Int64.toInt_inj] <;> omega
theorem cgt_f {x y : Int64} (h : ¬ y < x) : ¬ 0 < XT.cmpL x y := by unfold XT.cmpL; split <;> (try split) <;> simp_all [Int64.lt_iff_toInt_lt, ← Int64.toInt_inj] <;> omega
theorem ceq_t {x y : Int64} (h : x = y) : XT.cmpL x y = 0 := by unfold XT.cmpL; split <;> (try split) <;> simp_all [Int64.lt_iff_toInt_lt, ← Int64.toInt_inj] <;> omega
theorem ceq_f {x y : Int64} (h : ¬ x = y) : ¬ XT.cmpL x y = 0 := by unfold XT.cmpL; split <;> (try split) <;> simp_all [Int64.lt_iff_toInt_lt, ← Int64.toInt_inj] <;> omega
/-- the invariant of a walk that loads no literal -/
def NI : State → Heap → Prop := fun _ _ => True
/-- what a walk that loads no literal ends in -/
def NG (s : State) (Q : Option Value → Heap → List Loc → Prop) (ck sk : Nat) : Outcome → State → Prop := fun o U' => ∃ v L, o = .returned v ∧ Q v U'.heap L ∧ FrameEnd s o U' L ck sk
variable {Q : Option Value → Heap → List Loc → Prop} {ck sk : Nat}
theorem r_gen (D : Wk p l e R m args below meth c own bytes maxL Z I s' T locs cells slots h) {v : Option Value} (hv : meth.sig.returnType = none → v = none) (hlk : meth.locks = false) (hst : ∀ fs, (∀ (f : JFrame) (acts : List Action), f.method = m → f.locked = none → f.entered = [] → (doReturn e (T.setTop f) acts v).1 = T.setFrames fs) → Steps p.tables e below (T.setTop (mkF m pc Ls S)) (T.setFrames fs)) (hQ : Q v h locs) (hc : cells ≤ ck) (hs : slots ≤ sk) : Go p e below (NG s' Q ck sk) (T.setTop (mkF m pc Ls S)) := by
  obtain ⟨fs, hr, hrun, hended, hW, hsame⟩ := D.st.leave (v := v) hv hlk
  refine ⟨_, _, hst fs hr, hrun, hended, _, _, rfl, ?_, ⟨_, rfl⟩, hW, hsame.mono hc hs⟩
  show Q v T.heap locs
  rw [D.eq]; exact hQ
theorem r_I (D : Wk p l e R m args below meth c own bytes maxL Z I s' T locs cells slots h) {z : Int32} (hret : meth.sig.returnType = some .int) (hlk : meth.locks = false) (hd : decode bytes pc = .ok (.ireturn, 1)) (hQ : Q (some (.int z)) h locs) (hc : cells ≤ ck) (hs : slots ≤ sk) : Go p e below (NG s' Q ck sk) (T.setTop (mkF m pc Ls (.int z :: S))) :=
  r_gen D (fun h => by rw [hret] at h; cases h) hlk (fun fs hr => retOut D.st D.ex hret rfl (Or.inl ⟨rfl, Or.inl rfl, _, rfl⟩) (hb D.cb hd) hr) hQ hc hs
theorem r_N (D : Wk p l e R m args below meth c own bytes maxL Z I s' T locs cells slots h) {t : FieldType} {z : Int32} (hret : meth.sig.returnType = some t) (ht : t = .boolean ∨ t = .byte ∨ t = .char ∨ t = .short) (hlk : meth.locks = false) (hd : decode bytes pc = .ok (.ireturn, 1)) (hQ : Q (some (.int (nar t z))) h locs) (hc : cells ≤ ck) (hs : slots ≤ sk) : Go p e below (NG s' Q ck sk) (T.setTop (mkF m pc Ls (.int z :: S))) :=
  r_gen D (fun h => by rw [hret] at h; cases h) hlk (fun fs hr => retN D.st D.ex hret ht (hb D.cb hd) hr) hQ hc hs
theorem r_A (D : Wk p l e R m args below meth c own bytes maxL Z I s' T locs cells slots h) {t : FieldType} {w : Value} (hret : meth.sig.returnType = some t) (ht : t.isReference = true) (hw : w.isRef = true) (hlk : meth.locks = false) (hd : decode bytes pc = .ok (.areturn, 1)) (hQ : Q (some w) h locs) (hc : cells ≤ ck) (hs : slots ≤ sk) : Go p e below (NG s' Q ck sk) (T.setTop (mkF m pc Ls (w :: S))) :=
  r_gen D (fun h => by rw [hret] at h; cases h) hlk (fun fs hr => retOut D.st D.ex hret (by cases t <;> first | (cases ht; done) | rfl) (Or.inr (Or.inr (Or.inr (Or.inr ⟨rfl, ht, hw⟩)))) (hb D.cb hd) hr) hQ hc hs
theorem r_J (D : Wk p l e R m args below meth c own bytes maxL Z I s' T locs cells slots h) {z : Int64} (hret : meth.sig.returnType = some .long) (hlk : meth.locks = false) (hd : decode bytes pc = .ok (.lreturn, 1)) (hQ : Q (some (.long z)) h locs) (hc : cells ≤ ck) (hs : slots ≤ sk) : Go p e below (NG s' Q ck sk) (T.setTop (mkF m pc Ls (.long z :: S))) :=
  r_gen D (fun h => by rw [hret] at h; cases h) hlk (fun fs hr => retOut D.st D.ex hret rfl (Or.inr (Or.inl ⟨rfl, rfl, _, rfl⟩)) (hb D.cb hd) hr) hQ hc hs
theorem r_V (D : Wk p l e R m args below meth c own bytes maxL Z I s' T locs cells slots h) (hret : meth.sig.returnType = none) (hlk : meth.locks = false) (hd : decode bytes pc = .ok (.return_, 1)) (hQ : Q none h locs) (hc : cells ≤ ck) (hs : slots ≤ sk) : Go p e below (NG s' Q ck sk) (T.setTop (mkF m pc Ls [])) :=
  r_gen D (fun _ => rfl) hlk (fun fs hr => D.st.returnOut D.ex hret (hb D.cb hd) hr) hQ hc hs
end Walk
/-- a contract: called with these arguments at this heap it returns, and Q tells what it leaves -/
abbrev Con (l : Launch) (y : MethodName) (bytes : ByteArray) (maxL : Nat) (ret : Option FieldType) (ws : List Jvm.Cond) (rm : Room) (Z : State) (as' : Array Value) (h0 : Heap) (Q : Option Value → Heap → List Loc → Prop) (ck sk : Nat) : Prop :=
  MetFree l y (head1 (Jvm.Cond.code y bytes maxL ret :: ws) rm) (fun a U => a = as' ∧ Z.Warmed39 U.vm ∧ U.heap = h0) (fun _ _ _ _ _ => True) (fun _ U o U' => ∃ v L, o = .returned v ∧ Q v U'.heap L ∧ FrameEnd U o U' L ck sk)
theorem enter {l : Launch} {y : MethodName} {bytes : ByteArray} {maxL : Nat} {ret : Option FieldType} {ws : List Jvm.Cond} {rm : Room} {Z : State} {as' : Array Value} {h0 : Heap} {Q : Option Value → Heap → List Loc → Prop} {ck sk : Nat} (hpl : plainFor y = true)
    (k : ∀ p e s m below meth c s₁, meth.name = y.name → meth.sig.returnType = ret → meth.locks = false → Wk p l e rm m as' below meth c y.cls bytes maxL Z NI s s₁ [] 0 0 h0 → Go p e below (NG s Q ck sk) (s₁.setTop (entryFrame m as' maxL))) :
    Con l y bytes maxL ret ws rm Z as' h0 Q ck sk := by
  refine MetFree.of_bodySF hpl hisR ?_
  intro p e s m args below meth c s₁ Bd hml0 hP hK
  obtain ⟨rfl, hZ, hh⟩ := hP
  have X0 : Stand p l e rm s m _ below meth c s₁ [] 0 0 := Stand.of_body Bd
  exact k p e s m below meth c s₁ (name_of_methodNamed Bd.named Bd.method).1 Bd.returns Bd.notSynchronized ⟨X0, by rw [← hh, Bd.state]; rfl, hZ, findClass_of_methodNamed Bd.named, Bd.exec, Bd.bytes, hml0, trivial⟩
theorem Con.back {l : Launch} {y : MethodName} {bytes : ByteArray} {maxL : Nat} {ret : Option FieldType} {rm : Room} {Z : State} {as' : Array Value} {h0 : Heap} {Q : Option Value → Heap → List Loc → Prop} (hM : Con l y bytes maxL ret [] rm Z as' h0 Q rm.cells rm.slots) {p : Program} {e : Env} {R : Room} {m : MethodId} {args : Array Value} {below : List Frame} {meth : Method} {c : Code} {own : String} {bz : ByteArray} {mL : Nat} {I : State → Heap → Prop} {s' T : State} {locs : List Loc} {cells slots : Nat} {h : Heap} {a0 : Array Value}
    (D : Wk p l e R m args below meth c own bz mL Z I s' T locs cells slots h) (W : Nat) {len : Nat} (wc : (Cond.code y bytes maxL ret).before a0 Z = true) (wz : (Cond.initialized y.cls).before a0 Z = true) (hf : rm.frames + 1 ≤ R.frames) (hl : W + (maxL + 11) + rm.locals ≤ R.locals) :
    Back l R p e below s' args y len W (fun A a => a = as' ∧ A.U.heap = h0 ∧ A.cells + rm.cells ≤ R.cells ∧ A.slots + rm.slots ≤ R.slots) (fun A _ v B => ∃ L, Q v B.U.heap L ∧ B.locs = A.locs ++ L ∧ B.cells = A.cells + rm.cells ∧ B.slots = A.slots + rm.slots) :=
  backOf hM D.wm wc wz hf hl
theorem eqr_v {args : Array Value} {Z : State} {X F : Term} {idx : List Nat} {y : Addr} (hF : F.eval args Z none idx Z = some (.ref y)) (h : (Cond.eq X F).value args Z none Z idx = some true) : X.eval args Z none idx Z = some (.ref y) := by
  obtain ⟨x, y', e1, e2, k1, k2⟩ := cmp_v (Or.inl h)
  cases hF.symm.trans e2
  have hx : x.isRef = true := k2.2
  have q := gotT (eq_R e1 hF hx rfl) h
  rw [e1, q]
theorem arv_start {Z : State} {args : Array Value} {t : Term} {a : Addr} {ty : FieldType} {n : Int32} {vs : List Value} {dv : Value} (hf : Fit Z) (ev : t.eval args Z none [] Z = some (.ref a)) (ha : (Cond.arrayOf t ty).value args Z none Z [] = some true) (hl : (Cond.eq (.length t) (.int n)).value args Z none Z [] = some true) (hn : ¬ n < 0) (hk : n.toNatClampNeg = vs.length) (H : ∀ cl : Cell, Z.heap[a]? = some cl → HasL cl 0 vs) : ∃ k, Arv Z Z.heap a k ty n vs dv := by
  obtain ⟨cl, A⟩ := Arr.start ev ha
  have q := eqv_i (Term.int_eval (n)) hl
  have q2 : cl.slots.size < 2 ^ 31 ∧ cl.slots.size.toInt32 = n := by
    have q3 := A.fin (Vm.Alike.refl _)
    simp only [Term.eval, ev, q3, Option.bind_eq_bind, Option.bind_some] at q
    split at q
    · rename_i q4; exact ⟨q4, by simpa using q⟩
    · cases q
  exact ⟨_, Arv.start hf A q2.1 q2.2 hn hk (H cl A.1)⟩
theorem w_0 : (Jvm.Cond.methodLink "com/example/ocotillo/ocotillo/core/FeedProblemEqualsPinLaw" (48 : Nat) ({ cls := "com/example/ocotillo/ocotillo/core/FeedProblemEqualsPinLaw", name := "mk", desc := "(ICCC)Ljava/lang/String;" } : Jvm.MethodName)) ∈ tables_1 := List.mem_of_getElem? (i := 0) rfl
theorem w_1 : (Jvm.Cond.static ({ cls := "com/example/ocotillo/ocotillo/core/FeedProblemEqualsPinLaw", name := "mk", desc := "(ICCC)Ljava/lang/String;" } : Jvm.MethodName)) ∈ tables_1 := List.mem_of_getElem? (i := 1) rfl
theorem w_2 : (Jvm.Cond.initialized "com/example/ocotillo/ocotillo/core/FeedProblemEqualsPinLaw") ∈ tables_1 := List.mem_of_getElem? (i := 2) rfl
theorem w_3 : (Jvm.Cond.code ({ cls := "com/example/ocotillo/ocotillo/core/FeedProblemEqualsPinLaw", name := "mk", desc := "(ICCC)Ljava/lang/String;" } : Jvm.MethodName) method_2_code (4 : Nat) (Option.some (Jvm.ClassFile.FieldType.object "java/lang/String"))) ∈ tables_1 := List.mem_of_getElem? (i := 3) rfl
theorem w_4 : (Jvm.Cond.classLink "com/example/ocotillo/ocotillo/core/FeedProblemEqualsPinLaw" (7 : Nat) "java/lang/String") ∈ tables_1 := List.mem_of_getElem? (i := 4) rfl
theorem w_5 : (Jvm.Cond.instantiable "java/lang/String" (4 : Nat)) ∈ tables_1 := List.mem_of_getElem? (i := 5) rfl
theorem w_6 : (Jvm.Cond.initialized "java/lang/String") ∈ tables_1 := List.mem_of_getElem? (i := 6) rfl
theorem w_7 : (Jvm.Cond.arrayClass Jvm.ClassFile.FieldType.char) ∈ tables_1 := List.mem_of_getElem? (i := 7) rfl
theorem w_8 : (Jvm.Cond.methodLink "com/example/ocotillo/ocotillo/core/FeedProblemEqualsPinLaw" (9 : Nat) ({ cls := "java/lang/String", name := "<init>", desc := "([C)V" } : Jvm.MethodName)) ∈ tables_1 := List.mem_of_getElem? (i := 8) rfl
theorem w_9 : (Jvm.Cond.instanceMethod ({ cls := "java/lang/String", name := "<init>", desc := "([C)V" } : Jvm.MethodName)) ∈ tables_1 := List.mem_of_getElem? (i := 9) rfl
theorem w_10 : (Jvm.Cond.code ({ cls := "java/lang/String", name := "<init>", desc := "([C)V" } : Jvm.MethodName) jdk_42_method_3_code (2 : Nat) (Option.none : Option Jvm.ClassFile.FieldType)) ∈ tables_1 := List.mem_of_getElem? (i := 10) rfl
theorem w_11 : (Jvm.Cond.methodLink "java/lang/String" (27 : Nat) ({ cls := "java/lang/String", name := "<init>", desc := "([CIILjava/lang/Void;)V" } : Jvm.MethodName)) ∈ tables_1 := List.mem_of_getElem? (i := 11) rfl
theorem w_12 : (Jvm.Cond.instanceMethod ({ cls := "java/lang/String", name := "<init>", desc := "([CIILjava/lang/Void;)V" } : Jvm.MethodName)) ∈ tables_1 := List.mem_of_getElem? (i := 12) rfl
theorem w_14 : (Jvm.Cond.code ({ cls := "java/lang/String", name := "<init>", desc := "([CIILjava/lang/Void;)V" } : Jvm.MethodName) jdk_42_method_149_code (6 : Nat) (Option.none : Option Jvm.ClassFile.FieldType)) ∈ tables_1 := List.mem_of_getElem? (i := 14) rfl
theorem w_15 : (Jvm.Cond.methodLink "java/lang/String" (1 : Nat) ({ cls := "java/lang/Object", name := "<init>", desc := "()V" } : Jvm.MethodName)) ∈ tables_1 := List.mem_of_getElem? (i := 15) rfl
theorem w_16 : (Jvm.Cond.instanceMethod ({ cls := "java/lang/Object", name := "<init>", desc := "()V" } : Jvm.MethodName)) ∈ tables_1 := List.mem_of_getElem? (i := 16) rfl
theorem w_17 : (Jvm.Cond.code ({ cls := "java/lang/Object", name := "<init>", desc := "()V" } : Jvm.MethodName) object_method_1_code (1 : Nat) (Option.none : Option Jvm.ClassFile.FieldType)) ∈ tables_1 := List.mem_of_getElem? (i := 17) rfl
theorem w_18 : (Jvm.Cond.stringLink "java/lang/String" (7 : Nat) "") ∈ tables_1 := List.mem_of_getElem? (i := 18) rfl
theorem w_19 : (Jvm.Cond.arrayClass Jvm.ClassFile.FieldType.byte) ∈ tables_1 := List.mem_of_getElem? (i := 19) rfl
theorem w_20 : (Jvm.Cond.laysFinal "java/lang/String" "java/lang/String" "value" "[B") ∈ tables_1 := List.mem_of_getElem? (i := 20) rfl
theorem w_21 : (Jvm.Cond.laysFinal "java/lang/String" "java/lang/String" "coder" "B") ∈ tables_1 := List.mem_of_getElem? (i := 21) rfl
theorem w_24 : (Jvm.Cond.fieldLink "java/lang/String" (9 : Nat) "java/lang/String" "value" "[B") ∈ tables_1 := List.mem_of_getElem? (i := 24) rfl
theorem w_25 : (Jvm.Cond.fieldLink "java/lang/String" (15 : Nat) "java/lang/String" "coder" "B") ∈ tables_1 := List.mem_of_getElem? (i := 25) rfl
theorem w_26 : (Jvm.Cond.classLink "com/example/ocotillo/ocotillo/core/FeedProblemEqualsPinLaw" (54 : Nat) "com/example/ocotillo/ocotillo/core/FeedProblem") ∈ tables_1 := List.mem_of_getElem? (i := 26) rfl
theorem w_27 : (Jvm.Cond.instantiable "com/example/ocotillo/ocotillo/core/FeedProblem" (2 : Nat)) ∈ tables_1 := List.mem_of_getElem? (i := 27) rfl
theorem w_28 : (Jvm.Cond.initialized "com/example/ocotillo/ocotillo/core/FeedProblem") ∈ tables_1 := List.mem_of_getElem? (i := 28) rfl
theorem w_29 : (Jvm.Cond.methodLink "com/example/ocotillo/ocotillo/core/FeedProblemEqualsPinLaw" (56 : Nat) ({ cls := "com/example/ocotillo/ocotillo/core/FeedProblemEqualsPinLaw", name := "code", desc := "(I)Lcom/example/ocotillo/ocotillo/core/FeedProblem$Code;" } : Jvm.MethodName)) ∈ tables_1 := List.mem_of_getElem? (i := 29) rfl
theorem w_30 : (Jvm.Cond.static ({ cls := "com/example/ocotillo/ocotillo/core/FeedProblemEqualsPinLaw", name := "code", desc := "(I)Lcom/example/ocotillo/ocotillo/core/FeedProblem$Code;" } : Jvm.MethodName)) ∈ tables_1 := List.mem_of_getElem? (i := 30) rfl
theorem w_31 : (Jvm.Cond.code ({ cls := "com/example/ocotillo/ocotillo/core/FeedProblemEqualsPinLaw", name := "code", desc := "(I)Lcom/example/ocotillo/ocotillo/core/FeedProblem$Code;" } : Jvm.MethodName) method_3_code (1 : Nat) (Option.some (Jvm.ClassFile.FieldType.object "com/example/ocotillo/ocotillo/core/FeedProblem$Code"))) ∈ tables_1 := List.mem_of_getElem? (i := 31) rfl
theorem w_32 : (Jvm.Cond.fieldLink "com/example/ocotillo/ocotillo/core/FeedProblemEqualsPinLaw" (21 : Nat) "com/example/ocotillo/ocotillo/core/FeedProblem$Code" "NO_CATEGORY" "Lcom/example/ocotillo/ocotillo/core/FeedProblem$Code;") ∈ tables_1 := List.mem_of_getElem? (i := 32) rfl
theorem w_33 : (Jvm.Cond.initialized "com/example/ocotillo/ocotillo/core/FeedProblem$Code") ∈ tables_1 := List.mem_of_getElem? (i := 33) rfl
theorem w_34 : (Jvm.Cond.laysStatic "com/example/ocotillo/ocotillo/core/FeedProblem$Code" "NO_CATEGORY" "Lcom/example/ocotillo/ocotillo/core/FeedProblem$Code;") ∈ tables_1 := List.mem_of_getElem? (i := 34) rfl
theorem w_35 : (Jvm.Cond.methodLink "com/example/ocotillo/ocotillo/core/FeedProblemEqualsPinLaw" (60 : Nat) ({ cls := "com/example/ocotillo/ocotillo/core/FeedProblem", name := "<init>", desc := "(Ljava/lang/String;Lcom/example/ocotillo/ocotillo/core/FeedProblem$Code;)V" } : Jvm.MethodName)) ∈ tables_1 := List.mem_of_getElem? (i := 35) rfl
theorem w_36 : (Jvm.Cond.instanceMethod ({ cls := "com/example/ocotillo/ocotillo/core/FeedProblem", name := "<init>", desc := "(Ljava/lang/String;Lcom/example/ocotillo/ocotillo/core/FeedProblem$Code;)V" } : Jvm.MethodName)) ∈ tables_1 := List.mem_of_getElem? (i := 36) rfl
theorem w_37 : (Jvm.Cond.code ({ cls := "com/example/ocotillo/ocotillo/core/FeedProblem", name := "<init>", desc := "(Ljava/lang/String;Lcom/example/ocotillo/ocotillo/core/FeedProblem$Code;)V" } : Jvm.MethodName) prog_1_method_1_code (3 : Nat) (Option.none : Option Jvm.ClassFile.FieldType)) ∈ tables_1 := List.mem_of_getElem? (i := 37) rfl
theorem w_38 : (Jvm.Cond.methodLink "com/example/ocotillo/ocotillo/core/FeedProblem" (1 : Nat) ({ cls := "java/lang/Object", name := "<init>", desc := "()V" } : Jvm.MethodName)) ∈ tables_1 := List.mem_of_getElem? (i := 38) rfl
theorem w_39 : (Jvm.Cond.fieldLink "com/example/ocotillo/ocotillo/core/FeedProblem" (7 : Nat) "com/example/ocotillo/ocotillo/core/FeedProblem" "title" "Ljava/lang/String;") ∈ tables_1 := List.mem_of_getElem? (i := 39) rfl
theorem w_40 : (Jvm.Cond.laysFinal "com/example/ocotillo/ocotillo/core/FeedProblem" "com/example/ocotillo/ocotillo/core/FeedProblem" "title" "Ljava/lang/String;") ∈ tables_1 := List.mem_of_getElem? (i := 40) rfl
theorem w_41 : (Jvm.Cond.fieldLink "com/example/ocotillo/ocotillo/core/FeedProblem" (13 : Nat) "com/example/ocotillo/ocotillo/core/FeedProblem" "code" "Lcom/example/ocotillo/ocotillo/core/FeedProblem$Code;") ∈ tables_1 := List.mem_of_getElem? (i := 41) rfl
theorem w_42 : (Jvm.Cond.laysFinal "com/example/ocotillo/ocotillo/core/FeedProblem" "com/example/ocotillo/ocotillo/core/FeedProblem" "code" "Lcom/example/ocotillo/ocotillo/core/FeedProblem$Code;") ∈ tables_1 := List.mem_of_getElem? (i := 42) rfl
theorem w_43 : (Jvm.Cond.fieldLink "com/example/ocotillo/ocotillo/core/FeedProblemEqualsPinLaw" (18 : Nat) "com/example/ocotillo/ocotillo/core/FeedProblem$Code" "SEVERAL_REQUIREMENTS" "Lcom/example/ocotillo/ocotillo/core/FeedProblem$Code;") ∈ tables_1 := List.mem_of_getElem? (i := 43) rfl
theorem w_44 : (Jvm.Cond.laysStatic "com/example/ocotillo/ocotillo/core/FeedProblem$Code" "SEVERAL_REQUIREMENTS" "Lcom/example/ocotillo/ocotillo/core/FeedProblem$Code;") ∈ tables_1 := List.mem_of_getElem? (i := 44) rfl
theorem w_45 : (Jvm.Cond.methodLink "com/example/ocotillo/ocotillo/core/FeedProblemEqualsPinLaw" (63 : Nat) ({ cls := "com/example/ocotillo/ocotillo/core/FeedProblem", name := "equals", desc := "(Ljava/lang/Object;)Z" } : Jvm.MethodName)) ∈ tables_1 := List.mem_of_getElem? (i := 45) rfl
theorem w_46 : (Jvm.Cond.declares ({ cls := "com/example/ocotillo/ocotillo/core/FeedProblem", name := "equals", desc := "(Ljava/lang/Object;)Z" } : Jvm.MethodName)) ∈ tables_1 := List.mem_of_getElem? (i := 46) rfl
theorem w_47 : (Jvm.Cond.instanceMethod ({ cls := "com/example/ocotillo/ocotillo/core/FeedProblem", name := "equals", desc := "(Ljava/lang/Object;)Z" } : Jvm.MethodName)) ∈ tables_1 := List.mem_of_getElem? (i := 47) rfl
theorem w_48 : (Jvm.Cond.selects "com/example/ocotillo/ocotillo/core/FeedProblem" ({ cls := "com/example/ocotillo/ocotillo/core/FeedProblem", name := "equals", desc := "(Ljava/lang/Object;)Z" } : Jvm.MethodName) ({ cls := "com/example/ocotillo/ocotillo/core/FeedProblem", name := "equals", desc := "(Ljava/lang/Object;)Z" } : Jvm.MethodName)) ∈ tables_1 := List.mem_of_getElem? (i := 48) rfl
theorem w_49 : (Jvm.Cond.code ({ cls := "com/example/ocotillo/ocotillo/core/FeedProblem", name := "equals", desc := "(Ljava/lang/Object;)Z" } : Jvm.MethodName) prog_1_method_4_code (2 : Nat) (Option.some Jvm.ClassFile.FieldType.boolean)) ∈ tables_1 := List.mem_of_getElem? (i := 49) rfl
theorem w_50 : (Jvm.Cond.classLink "com/example/ocotillo/ocotillo/core/FeedProblem" (8 : Nat) "com/example/ocotillo/ocotillo/core/FeedProblem") ∈ tables_1 := List.mem_of_getElem? (i := 50) rfl
theorem w_52 : (Jvm.Cond.methodLink "com/example/ocotillo/ocotillo/core/FeedProblem" (17 : Nat) ({ cls := "java/lang/String", name := "equals", desc := "(Ljava/lang/Object;)Z" } : Jvm.MethodName)) ∈ tables_1 := List.mem_of_getElem? (i := 52) rfl
theorem w_53 : (Jvm.Cond.declares ({ cls := "java/lang/String", name := "equals", desc := "(Ljava/lang/Object;)Z" } : Jvm.MethodName)) ∈ tables_1 := List.mem_of_getElem? (i := 53) rfl
theorem w_54 : (Jvm.Cond.instanceMethod ({ cls := "java/lang/String", name := "equals", desc := "(Ljava/lang/Object;)Z" } : Jvm.MethodName)) ∈ tables_1 := List.mem_of_getElem? (i := 54) rfl
theorem w_55 : (Jvm.Cond.selects "java/lang/String" ({ cls := "java/lang/String", name := "equals", desc := "(Ljava/lang/Object;)Z" } : Jvm.MethodName) ({ cls := "java/lang/String", name := "equals", desc := "(Ljava/lang/Object;)Z" } : Jvm.MethodName)) ∈ tables_1 := List.mem_of_getElem? (i := 55) rfl
theorem w_63 : (Jvm.Cond.fieldLink "com/example/ocotillo/ocotillo/core/FeedProblemEqualsPinLaw" (45 : Nat) "com/example/ocotillo/ocotillo/core/FeedProblem$Code" "SUBSCRIPTION_WITHOUT_PACKAGE" "Lcom/example/ocotillo/ocotillo/core/FeedProblem$Code;") ∈ tables_1 := List.mem_of_getElem? (i := 63) rfl
theorem w_64 : (Jvm.Cond.laysStatic "com/example/ocotillo/ocotillo/core/FeedProblem$Code" "SUBSCRIPTION_WITHOUT_PACKAGE" "Lcom/example/ocotillo/ocotillo/core/FeedProblem$Code;") ∈ tables_1 := List.mem_of_getElem? (i := 64) rfl
theorem w_65 : (Jvm.Cond.fieldLink "com/example/ocotillo/ocotillo/core/FeedProblemEqualsPinLaw" (12 : Nat) "com/example/ocotillo/ocotillo/core/FeedProblem$Code" "NO_REQUIREMENT" "Lcom/example/ocotillo/ocotillo/core/FeedProblem$Code;") ∈ tables_1 := List.mem_of_getElem? (i := 65) rfl
theorem w_66 : (Jvm.Cond.laysStatic "com/example/ocotillo/ocotillo/core/FeedProblem$Code" "NO_REQUIREMENT" "Lcom/example/ocotillo/ocotillo/core/FeedProblem$Code;") ∈ tables_1 := List.mem_of_getElem? (i := 66) rfl
theorem w_67 : (Jvm.Cond.superclass "java/lang/String" "java/lang/Object") ∈ tables_1 := List.mem_of_getElem? (i := 67) rfl
theorem w_68 : (Jvm.Cond.noSuperclass "java/lang/Object") ∈ tables_1 := List.mem_of_getElem? (i := 68) rfl
theorem w_79 : (Jvm.Cond.fieldLink "com/example/ocotillo/ocotillo/core/FeedProblemEqualsPinLaw" (27 : Nat) "com/example/ocotillo/ocotillo/core/FeedProblem$Code" "NO_TIME_ZONE" "Lcom/example/ocotillo/ocotillo/core/FeedProblem$Code;") ∈ tables_1 := List.mem_of_getElem? (i := 79) rfl
theorem w_80 : (Jvm.Cond.laysStatic "com/example/ocotillo/ocotillo/core/FeedProblem$Code" "NO_TIME_ZONE" "Lcom/example/ocotillo/ocotillo/core/FeedProblem$Code;") ∈ tables_1 := List.mem_of_getElem? (i := 80) rfl
theorem w_81 : (Jvm.Cond.fieldLink "com/example/ocotillo/ocotillo/core/FeedProblemEqualsPinLaw" (39 : Nat) "com/example/ocotillo/ocotillo/core/FeedProblem$Code" "UNKNOWN_SUBSCRIPTION" "Lcom/example/ocotillo/ocotillo/core/FeedProblem$Code;") ∈ tables_1 := List.mem_of_getElem? (i := 81) rfl
theorem w_82 : (Jvm.Cond.laysStatic "com/example/ocotillo/ocotillo/core/FeedProblem$Code" "UNKNOWN_SUBSCRIPTION" "Lcom/example/ocotillo/ocotillo/core/FeedProblem$Code;") ∈ tables_1 := List.mem_of_getElem? (i := 82) rfl
theorem w_83 : (Jvm.Cond.fieldLink "com/example/ocotillo/ocotillo/core/FeedProblemEqualsPinLaw" (24 : Nat) "com/example/ocotillo/ocotillo/core/FeedProblem$Code" "UNKNOWN_CATEGORY" "Lcom/example/ocotillo/ocotillo/core/FeedProblem$Code;") ∈ tables_1 := List.mem_of_getElem? (i := 83) rfl
theorem w_84 : (Jvm.Cond.laysStatic "com/example/ocotillo/ocotillo/core/FeedProblem$Code" "UNKNOWN_CATEGORY" "Lcom/example/ocotillo/ocotillo/core/FeedProblem$Code;") ∈ tables_1 := List.mem_of_getElem? (i := 84) rfl
theorem w_85 : (Jvm.Cond.fieldLink "com/example/ocotillo/ocotillo/core/FeedProblemEqualsPinLaw" (36 : Nat) "com/example/ocotillo/ocotillo/core/FeedProblem$Code" "UNKNOWN_REGION" "Lcom/example/ocotillo/ocotillo/core/FeedProblem$Code;") ∈ tables_1 := List.mem_of_getElem? (i := 85) rfl
theorem w_86 : (Jvm.Cond.laysStatic "com/example/ocotillo/ocotillo/core/FeedProblem$Code" "UNKNOWN_REGION" "Lcom/example/ocotillo/ocotillo/core/FeedProblem$Code;") ∈ tables_1 := List.mem_of_getElem? (i := 86) rfl
theorem w_87 : (Jvm.Cond.fieldLink "com/example/ocotillo/ocotillo/core/FeedProblemEqualsPinLaw" (42 : Nat) "com/example/ocotillo/ocotillo/core/FeedProblem$Code" "NO_IDENTIFIER" "Lcom/example/ocotillo/ocotillo/core/FeedProblem$Code;") ∈ tables_1 := List.mem_of_getElem? (i := 87) rfl
theorem w_88 : (Jvm.Cond.laysStatic "com/example/ocotillo/ocotillo/core/FeedProblem$Code" "NO_IDENTIFIER" "Lcom/example/ocotillo/ocotillo/core/FeedProblem$Code;") ∈ tables_1 := List.mem_of_getElem? (i := 88) rfl
theorem w_89 : (Jvm.Cond.fieldLink "com/example/ocotillo/ocotillo/core/FeedProblemEqualsPinLaw" (30 : Nat) "com/example/ocotillo/ocotillo/core/FeedProblem$Code" "BAD_DATE" "Lcom/example/ocotillo/ocotillo/core/FeedProblem$Code;") ∈ tables_1 := List.mem_of_getElem? (i := 89) rfl
theorem w_90 : (Jvm.Cond.laysStatic "com/example/ocotillo/ocotillo/core/FeedProblem$Code" "BAD_DATE" "Lcom/example/ocotillo/ocotillo/core/FeedProblem$Code;") ∈ tables_1 := List.mem_of_getElem? (i := 90) rfl
theorem w_91 : (Jvm.Cond.fieldLink "com/example/ocotillo/ocotillo/core/FeedProblemEqualsPinLaw" (33 : Nat) "com/example/ocotillo/ocotillo/core/FeedProblem$Code" "ENDS_BEFORE_STARTS" "Lcom/example/ocotillo/ocotillo/core/FeedProblem$Code;") ∈ tables_1 := List.mem_of_getElem? (i := 91) rfl
theorem w_92 : (Jvm.Cond.laysStatic "com/example/ocotillo/ocotillo/core/FeedProblem$Code" "ENDS_BEFORE_STARTS" "Lcom/example/ocotillo/ocotillo/core/FeedProblem$Code;") ∈ tables_1 := List.mem_of_getElem? (i := 92) rfl
theorem d_jdk_42m149_0 : decode jdk_42_method_149_code 0 = .ok (.aload_n 0, 1) := by decide +kernel
theorem d_jdk_42m149_1 : decode jdk_42_method_149_code 1 = .ok (.invokespecial 1, 3) := by decide +kernel
theorem d_jdk_42m149_4 : decode jdk_42_method_149_code 4 = .ok (.iload_n 3, 1) := by decide +kernel
theorem d_jdk_42m149_5 : decode jdk_42_method_149_code 5 = .ok (.ifCond .ne 22, 3) := by decide +kernel
theorem d_jdk_42m149_8 : decode jdk_42_method_149_code 8 = .ok (.aload_n 0, 1) := by decide +kernel
theorem d_jdk_42m149_9 : decode jdk_42_method_149_code 9 = .ok (.ldc 7, 2) := by decide +kernel
theorem d_jdk_42m149_11 : decode jdk_42_method_149_code 11 = .ok (.getfield 9, 3) := by decide +kernel
theorem d_jdk_42m149_14 : decode jdk_42_method_149_code 14 = .ok (.putfield 9, 3) := by decide +kernel
theorem d_jdk_42m149_17 : decode jdk_42_method_149_code 17 = .ok (.aload_n 0, 1) := by decide +kernel
theorem d_jdk_42m149_18 : decode jdk_42_method_149_code 18 = .ok (.ldc 7, 2) := by decide +kernel
theorem d_jdk_42m149_20 : decode jdk_42_method_149_code 20 = .ok (.getfield 15, 3) := by decide +kernel
theorem d_jdk_42m149_23 : decode jdk_42_method_149_code 23 = .ok (.putfield 15, 3) := by decide +kernel
theorem d_jdk_42m149_26 : decode jdk_42_method_149_code 26 = .ok (.return_, 1) := by decide +kernel
theorem d_jdk_42m3_0 : decode jdk_42_method_3_code 0 = .ok (.aload_n 0, 1) := by decide +kernel
theorem d_jdk_42m3_1 : decode jdk_42_method_3_code 1 = .ok (.aload_n 1, 1) := by decide +kernel
theorem d_jdk_42m3_2 : decode jdk_42_method_3_code 2 = .ok (.iconst 0, 1) := by decide +kernel
theorem d_jdk_42m3_3 : decode jdk_42_method_3_code 3 = .ok (.aload_n 1, 1) := by decide +kernel
theorem d_jdk_42m3_4 : decode jdk_42_method_3_code 4 = .ok (.arraylength, 1) := by decide +kernel
theorem d_jdk_42m3_5 : decode jdk_42_method_3_code 5 = .ok (.aconst_null, 1) := by decide +kernel
theorem d_jdk_42m3_6 : decode jdk_42_method_3_code 6 = .ok (.invokespecial 27, 3) := by decide +kernel
theorem d_jdk_42m3_9 : decode jdk_42_method_3_code 9 = .ok (.return_, 1) := by decide +kernel
theorem d_method_2_0 : decode method_2_code 0 = .ok (.iload_n 0, 1) := by decide +kernel
theorem d_method_2_1 : decode method_2_code 1 = .ok (.ifCond .ne 14, 3) := by decide +kernel
theorem d_method_2_4 : decode method_2_code 4 = .ok (.new 7, 3) := by decide +kernel
theorem d_method_2_7 : decode method_2_code 7 = .ok (.dup, 1) := by decide +kernel
theorem d_method_2_8 : decode method_2_code 8 = .ok (.iconst 0, 1) := by decide +kernel
theorem d_method_2_9 : decode method_2_code 9 = .ok (.newarray .char, 2) := by decide +kernel
theorem d_method_2_11 : decode method_2_code 11 = .ok (.invokespecial 9, 3) := by decide +kernel
theorem d_method_2_14 : decode method_2_code 14 = .ok (.areturn, 1) := by decide +kernel
theorem d_method_2_15 : decode method_2_code 15 = .ok (.iload_n 0, 1) := by decide +kernel
theorem d_method_2_16 : decode method_2_code 16 = .ok (.iconst 1, 1) := by decide +kernel
theorem d_method_2_17 : decode method_2_code 17 = .ok (.if_icmp .ne 18, 3) := by decide +kernel
theorem d_method_2_20 : decode method_2_code 20 = .ok (.new 7, 3) := by decide +kernel
theorem d_method_2_23 : decode method_2_code 23 = .ok (.dup, 1) := by decide +kernel
theorem d_method_2_24 : decode method_2_code 24 = .ok (.iconst 1, 1) := by decide +kernel
theorem d_method_2_25 : decode method_2_code 25 = .ok (.newarray .char, 2) := by decide +kernel
theorem d_method_2_27 : decode method_2_code 27 = .ok (.dup, 1) := by decide +kernel
theorem d_method_2_28 : decode method_2_code 28 = .ok (.iconst 0, 1) := by decide +kernel
theorem d_method_2_29 : decode method_2_code 29 = .ok (.iload_n 1, 1) := by decide +kernel
theorem d_method_2_30 : decode method_2_code 30 = .ok (.castore, 1) := by decide +kernel
theorem d_method_2_31 : decode method_2_code 31 = .ok (.invokespecial 9, 3) := by decide +kernel
theorem d_method_2_34 : decode method_2_code 34 = .ok (.areturn, 1) := by decide +kernel
theorem d_method_2_35 : decode method_2_code 35 = .ok (.iload_n 0, 1) := by decide +kernel
theorem d_method_2_36 : decode method_2_code 36 = .ok (.iconst 2, 1) := by decide +kernel
theorem d_method_2_37 : decode method_2_code 37 = .ok (.if_icmp .ne 22, 3) := by decide +kernel
theorem d_method_2_40 : decode method_2_code 40 = .ok (.new 7, 3) := by decide +kernel
theorem d_method_2_43 : decode method_2_code 43 = .ok (.dup, 1) := by decide +kernel
theorem d_method_2_44 : decode method_2_code 44 = .ok (.iconst 2, 1) := by decide +kernel
theorem d_method_2_45 : decode method_2_code 45 = .ok (.newarray .char, 2) := by decide +kernel
theorem d_method_2_47 : decode method_2_code 47 = .ok (.dup, 1) := by decide +kernel
theorem d_method_2_48 : decode method_2_code 48 = .ok (.iconst 0, 1) := by decide +kernel
theorem d_method_2_49 : decode method_2_code 49 = .ok (.iload_n 1, 1) := by decide +kernel
theorem d_method_2_50 : decode method_2_code 50 = .ok (.castore, 1) := by decide +kernel
theorem d_method_2_51 : decode method_2_code 51 = .ok (.dup, 1) := by decide +kernel
theorem d_method_2_52 : decode method_2_code 52 = .ok (.iconst 1, 1) := by decide +kernel
theorem d_method_2_53 : decode method_2_code 53 = .ok (.iload_n 2, 1) := by decide +kernel
theorem d_method_2_54 : decode method_2_code 54 = .ok (.castore, 1) := by decide +kernel
theorem d_method_2_55 : decode method_2_code 55 = .ok (.invokespecial 9, 3) := by decide +kernel
theorem d_method_2_58 : decode method_2_code 58 = .ok (.areturn, 1) := by decide +kernel
theorem d_method_2_59 : decode method_2_code 59 = .ok (.new 7, 3) := by decide +kernel
theorem d_method_2_62 : decode method_2_code 62 = .ok (.dup, 1) := by decide +kernel
theorem d_method_2_63 : decode method_2_code 63 = .ok (.iconst 3, 1) := by decide +kernel
theorem d_method_2_64 : decode method_2_code 64 = .ok (.newarray .char, 2) := by decide +kernel
theorem d_method_2_66 : decode method_2_code 66 = .ok (.dup, 1) := by decide +kernel
theorem d_method_2_67 : decode method_2_code 67 = .ok (.iconst 0, 1) := by decide +kernel
theorem d_method_2_68 : decode method_2_code 68 = .ok (.iload_n 1, 1) := by decide +kernel
theorem d_method_2_69 : decode method_2_code 69 = .ok (.castore, 1) := by decide +kernel
theorem d_method_2_70 : decode method_2_code 70 = .ok (.dup, 1) := by decide +kernel
theorem d_method_2_71 : decode method_2_code 71 = .ok (.iconst 1, 1) := by decide +kernel
theorem d_method_2_72 : decode method_2_code 72 = .ok (.iload_n 2, 1) := by decide +kernel
theorem d_method_2_73 : decode method_2_code 73 = .ok (.castore, 1) := by decide +kernel
theorem d_method_2_74 : decode method_2_code 74 = .ok (.dup, 1) := by decide +kernel
theorem d_method_2_75 : decode method_2_code 75 = .ok (.iconst 2, 1) := by decide +kernel
theorem d_method_2_76 : decode method_2_code 76 = .ok (.iload_n 3, 1) := by decide +kernel
theorem d_method_2_77 : decode method_2_code 77 = .ok (.castore, 1) := by decide +kernel
theorem d_method_2_78 : decode method_2_code 78 = .ok (.invokespecial 9, 3) := by decide +kernel
theorem d_method_2_81 : decode method_2_code 81 = .ok (.areturn, 1) := by decide +kernel
theorem d_method_3_0 : decode method_3_code 0 = .ok (.iload_n 0, 1) := by decide +kernel
theorem d_method_3_1 : decode method_3_code 1 = .ok (.ifCond .ne 7, 3) := by decide +kernel
theorem d_method_3_4 : decode method_3_code 4 = .ok (.getstatic 12, 3) := by decide +kernel
theorem d_method_3_7 : decode method_3_code 7 = .ok (.areturn, 1) := by decide +kernel
theorem d_method_3_8 : decode method_3_code 8 = .ok (.iload_n 0, 1) := by decide +kernel
theorem d_method_3_9 : decode method_3_code 9 = .ok (.iconst 1, 1) := by decide +kernel
theorem d_method_3_10 : decode method_3_code 10 = .ok (.if_icmp .ne 7, 3) := by decide +kernel
theorem d_method_3_13 : decode method_3_code 13 = .ok (.getstatic 18, 3) := by decide +kernel
theorem d_method_3_16 : decode method_3_code 16 = .ok (.areturn, 1) := by decide +kernel
theorem d_method_3_17 : decode method_3_code 17 = .ok (.iload_n 0, 1) := by decide +kernel
theorem d_method_3_18 : decode method_3_code 18 = .ok (.iconst 2, 1) := by decide +kernel
theorem d_method_3_19 : decode method_3_code 19 = .ok (.if_icmp .ne 7, 3) := by decide +kernel
theorem d_method_3_22 : decode method_3_code 22 = .ok (.getstatic 21, 3) := by decide +kernel
theorem d_method_3_25 : decode method_3_code 25 = .ok (.areturn, 1) := by decide +kernel
theorem d_method_3_26 : decode method_3_code 26 = .ok (.iload_n 0, 1) := by decide +kernel
theorem d_method_3_27 : decode method_3_code 27 = .ok (.iconst 3, 1) := by decide +kernel
theorem d_method_3_28 : decode method_3_code 28 = .ok (.if_icmp .ne 7, 3) := by decide +kernel
theorem d_method_3_31 : decode method_3_code 31 = .ok (.getstatic 24, 3) := by decide +kernel
theorem d_method_3_34 : decode method_3_code 34 = .ok (.areturn, 1) := by decide +kernel
theorem d_method_3_35 : decode method_3_code 35 = .ok (.iload_n 0, 1) := by decide +kernel
theorem d_method_3_36 : decode method_3_code 36 = .ok (.iconst 4, 1) := by decide +kernel
theorem d_method_3_37 : decode method_3_code 37 = .ok (.if_icmp .ne 7, 3) := by decide +kernel
theorem d_method_3_40 : decode method_3_code 40 = .ok (.getstatic 27, 3) := by decide +kernel
theorem d_method_3_43 : decode method_3_code 43 = .ok (.areturn, 1) := by decide +kernel
theorem d_method_3_44 : decode method_3_code 44 = .ok (.iload_n 0, 1) := by decide +kernel
theorem d_method_3_45 : decode method_3_code 45 = .ok (.iconst 5, 1) := by decide +kernel
theorem d_method_3_46 : decode method_3_code 46 = .ok (.if_icmp .ne 7, 3) := by decide +kernel
theorem d_method_3_49 : decode method_3_code 49 = .ok (.getstatic 30, 3) := by decide +kernel
theorem d_method_3_52 : decode method_3_code 52 = .ok (.areturn, 1) := by decide +kernel
theorem d_method_3_53 : decode method_3_code 53 = .ok (.iload_n 0, 1) := by decide +kernel
theorem d_method_3_54 : decode method_3_code 54 = .ok (.bipush 6, 2) := by decide +kernel
theorem d_method_3_56 : decode method_3_code 56 = .ok (.if_icmp .ne 7, 3) := by decide +kernel
theorem d_method_3_59 : decode method_3_code 59 = .ok (.getstatic 33, 3) := by decide +kernel
theorem d_method_3_62 : decode method_3_code 62 = .ok (.areturn, 1) := by decide +kernel
theorem d_method_3_63 : decode method_3_code 63 = .ok (.iload_n 0, 1) := by decide +kernel
theorem d_method_3_64 : decode method_3_code 64 = .ok (.bipush 7, 2) := by decide +kernel
theorem d_method_3_66 : decode method_3_code 66 = .ok (.if_icmp .ne 7, 3) := by decide +kernel
theorem d_method_3_69 : decode method_3_code 69 = .ok (.getstatic 36, 3) := by decide +kernel
theorem d_method_3_72 : decode method_3_code 72 = .ok (.areturn, 1) := by decide +kernel
theorem d_method_3_73 : decode method_3_code 73 = .ok (.iload_n 0, 1) := by decide +kernel
theorem d_method_3_74 : decode method_3_code 74 = .ok (.bipush 8, 2) := by decide +kernel
theorem d_method_3_76 : decode method_3_code 76 = .ok (.if_icmp .ne 7, 3) := by decide +kernel
theorem d_method_3_79 : decode method_3_code 79 = .ok (.getstatic 39, 3) := by decide +kernel
theorem d_method_3_82 : decode method_3_code 82 = .ok (.areturn, 1) := by decide +kernel
theorem d_method_3_83 : decode method_3_code 83 = .ok (.iload_n 0, 1) := by decide +kernel
theorem d_method_3_84 : decode method_3_code 84 = .ok (.bipush 9, 2) := by decide +kernel
theorem d_method_3_86 : decode method_3_code 86 = .ok (.if_icmp .ne 7, 3) := by decide +kernel
theorem d_method_3_89 : decode method_3_code 89 = .ok (.getstatic 42, 3) := by decide +kernel
theorem d_method_3_92 : decode method_3_code 92 = .ok (.areturn, 1) := by decide +kernel
theorem d_method_3_93 : decode method_3_code 93 = .ok (.getstatic 45, 3) := by decide +kernel
theorem d_method_3_96 : decode method_3_code 96 = .ok (.areturn, 1) := by decide +kernel
theorem d_prog_1m1_0 : decode prog_1_method_1_code 0 = .ok (.aload_n 0, 1) := by decide +kernel
theorem d_prog_1m1_1 : decode prog_1_method_1_code 1 = .ok (.invokespecial 1, 3) := by decide +kernel
theorem d_prog_1m1_4 : decode prog_1_method_1_code 4 = .ok (.aload_n 0, 1) := by decide +kernel
theorem d_prog_1m1_5 : decode prog_1_method_1_code 5 = .ok (.aload_n 1, 1) := by decide +kernel
theorem d_prog_1m1_6 : decode prog_1_method_1_code 6 = .ok (.putfield 7, 3) := by decide +kernel
theorem d_prog_1m1_9 : decode prog_1_method_1_code 9 = .ok (.aload_n 0, 1) := by decide +kernel
theorem d_prog_1m1_10 : decode prog_1_method_1_code 10 = .ok (.aload_n 2, 1) := by decide +kernel
theorem d_prog_1m1_11 : decode prog_1_method_1_code 11 = .ok (.putfield 13, 3) := by decide +kernel
theorem d_prog_1m1_14 : decode prog_1_method_1_code 14 = .ok (.return_, 1) := by decide +kernel
theorem d_prog_1m4_0 : decode prog_1_method_4_code 0 = .ok (.aload_n 1, 1) := by decide +kernel
theorem d_prog_1m4_1 : decode prog_1_method_4_code 1 = .ok (.instanceof 8, 3) := by decide +kernel
theorem d_prog_1m4_4 : decode prog_1_method_4_code 4 = .ok (.ifCond .eq 38, 3) := by decide +kernel
theorem d_prog_1m4_42 : decode prog_1_method_4_code 42 = .ok (.iconst 0, 1) := by decide +kernel
theorem d_prog_1m4_43 : decode prog_1_method_4_code 43 = .ok (.ireturn, 1) := by decide +kernel
theorem d_prog_1m4_7 : decode prog_1_method_4_code 7 = .ok (.aload_n 1, 1) := by decide +kernel
theorem d_prog_1m4_8 : decode prog_1_method_4_code 8 = .ok (.checkcast 8, 3) := by decide +kernel
theorem d_prog_1m4_11 : decode prog_1_method_4_code 11 = .ok (.getfield 7, 3) := by decide +kernel
theorem d_prog_1m4_14 : decode prog_1_method_4_code 14 = .ok (.aload_n 0, 1) := by decide +kernel
theorem d_prog_1m4_15 : decode prog_1_method_4_code 15 = .ok (.getfield 7, 3) := by decide +kernel
theorem d_prog_1m4_18 : decode prog_1_method_4_code 18 = .ok (.invokevirtual 17, 3) := by decide +kernel
theorem d_prog_1m4_21 : decode prog_1_method_4_code 21 = .ok (.ifCond .eq 21, 3) := by decide +kernel
theorem d_prog_1m4_24 : decode prog_1_method_4_code 24 = .ok (.aload_n 1, 1) := by decide +kernel
theorem d_prog_1m4_25 : decode prog_1_method_4_code 25 = .ok (.checkcast 8, 3) := by decide +kernel
theorem d_prog_1m4_28 : decode prog_1_method_4_code 28 = .ok (.getfield 13, 3) := by decide +kernel
theorem d_prog_1m4_31 : decode prog_1_method_4_code 31 = .ok (.aload_n 0, 1) := by decide +kernel
theorem d_prog_1m4_32 : decode prog_1_method_4_code 32 = .ok (.getfield 13, 3) := by decide +kernel
theorem d_prog_1m4_35 : decode prog_1_method_4_code 35 = .ok (.if_acmp .ne 7, 3) := by decide +kernel
theorem d_prog_1m4_38 : decode prog_1_method_4_code 38 = .ok (.iconst 1, 1) := by decide +kernel
theorem d_prog_1m4_39 : decode prog_1_method_4_code 39 = .ok (.goto 4, 3) := by decide +kernel
theorem pn_0 : plainName "java/lang/String" = true := by first | (simp [plainName, overriddenIn]; done) | decide +kernel
theorem pn_1 : plainName "com/example/ocotillo/ocotillo/core/FeedProblemEqualsPinLaw" = true := by first | (simp [plainName, overriddenIn]; done) | decide +kernel
theorem pn_2 : plainName "com/example/ocotillo/ocotillo/core/FeedProblem" = true := by first | (simp [plainName, overriddenIn]; done) | decide +kernel
theorem pd_0 : parseMethodDescriptor "([CIILjava/lang/Void;)V" = some ⟨[(.array .char), .int, .int, (.object "java/lang/Void")], none⟩ := by decide +kernel
theorem pd_1 : parseMethodDescriptor "([C)V" = some ⟨[(.array .char)], none⟩ := by decide +kernel
theorem pd_2 : parseMethodDescriptor "(Ljava/lang/Object;)Z" = some ⟨[(.object "java/lang/Object")], some .boolean⟩ := by decide +kernel
theorem pd_3 : parseMethodDescriptor "(ICCC)Ljava/lang/String;" = some ⟨[.int, .char, .char, .char], some (.object "java/lang/String")⟩ := by decide +kernel
theorem pd_4 : parseMethodDescriptor "(I)Lcom/example/ocotillo/ocotillo/core/FeedProblem$Code;" = some ⟨[.int], some (.object "com/example/ocotillo/ocotillo/core/FeedProblem$Code")⟩ := by decide +kernel
theorem pd_5 : parseMethodDescriptor "(Ljava/lang/String;Lcom/example/ocotillo/ocotillo/core/FeedProblem$Code;)V" = some ⟨[(.object "java/lang/String"), (.object "com/example/ocotillo/ocotillo/core/FeedProblem$Code")], none⟩ := by decide +kernel
theorem ef_cE4 (m : MethodId) (x : Addr) (b : Addr) : entryFrame m #[(.ref x), (.ref b), (.int (0 : Int32)), (.int (0 : Int32)), .null] 6 = mkF m 0 #[.val (.ref x), .val (.ref b), .val (.int (0 : Int32)), .val (.int (0 : Int32)), .val .null, .unset] [] := by first | (simp [entryFrame, mkF, argsToLocals, Value.category]; done) | rfl
theorem ef_cE1 (m : MethodId) (x : Addr) (b : Addr) : entryFrame m #[(.ref x), (.ref b)] 2 = mkF m 0 #[.val (.ref x), .val (.ref b)] [] := by first | (simp [entryFrame, mkF, argsToLocals, Value.category]; done) | rfl
theorem ef_cMk (m : MethodId) (n : Int32) (c0 : Int32) (c1 : Int32) (c2 : Int32) : entryFrame m #[(.int n), (.int c0), (.int c1), (.int c2)] 4 = mkF m 0 #[.val (.int n), .val (.int c0), .val (.int c1), .val (.int c2)] [] := by first | (simp [entryFrame, mkF, argsToLocals, Value.category]; done) | rfl
theorem ef_cCd (m : MethodId) (i : Int32) : entryFrame m #[(.int i)] 1 = mkF m 0 #[.val (.int i)] [] := by first | (simp [entryFrame, mkF, argsToLocals, Value.category]; done) | rfl
theorem ef_cFI (m : MethodId) (b : Addr) (t : Addr) (k : Addr) : entryFrame m #[(.ref b), (.ref t), (.ref k)] 3 = mkF m 0 #[.val (.ref b), .val (.ref t), .val (.ref k)] [] := by first | (simp [entryFrame, mkF, argsToLocals, Value.category]; done) | rfl
theorem ef_cE_0 (m : MethodId) (b : Addr) : entryFrame m #[(.ref b), .null] 2 = mkF m 0 #[.val (.ref b), .val .null] [] := by first | (simp [entryFrame, mkF, argsToLocals, Value.category]; done) | rfl
theorem ef_cE_1 (m : MethodId) (b : Addr) (o : Addr) : entryFrame m #[(.ref b), (.ref o)] 2 = mkF m 0 #[.val (.ref b), .val (.ref o)] [] := by first | (simp [entryFrame, mkF, argsToLocals, Value.category]; done) | rfl
theorem ef_cE_2 (m : MethodId) (b : Addr) (o : Addr) : entryFrame m #[(.ref b), (.ref o)] 2 = mkF m 0 #[.val (.ref b), .val (.ref o)] [] := by first | (simp [entryFrame, mkF, argsToLocals, Value.category]; done) | rfl
theorem ef_cX (m : MethodId) (t1 : Int32) (t2 : Int32) (k1 : Int32) (k2 : Int32) (mode : Int32) : entryFrame m #[(.int t1), (.int t2), (.int k1), (.int k2), (.int mode)] maxLocals = mkF m 0 #[.val (.int t1), .val (.int t2), .val (.int k1), .val (.int k2), .val (.int mode), .unset, .unset, .unset, .unset, .unset, .unset, .unset, .unset, .unset, .unset, .unset, .unset, .unset, .unset, .unset, .unset, .unset, .unset, .unset] [] := by first | (simp [entryFrame, mkF, argsToLocals, Value.category, maxLocals]; done) | rfl
/-- the object at a is a Latin-1 String of the chars cs -/
def LS (Z : State) (h : Heap) (a : Addr) (cs : List Int32) : Prop := ∃ (t : Addr) (kb : ClassId), Exa Z h a "java/lang/String" ∧ Fld Z h a "java/lang/String" "coder" "B" (.int 0) ∧ Fld Z h a "java/lang/String" "value" "[B" (.ref t) ∧ Arv Z h t kb .byte (Int32.ofNat cs.length) ((cs.map StrChars.lo8).map Value.int) (.int 0) ∧ (∀ c ∈ cs, ¬ c < 0 ∧ ¬ (255 : Int32) < c) ∧ cs.length ≤ 4000
theorem LS.ext {Z : State} {h h' : Heap} {a : Addr} {cs : List Int32} (F : LS Z h a cs) (E : Ext h h') : LS Z h' a cs := by
  obtain ⟨t, kb, f1, f2, f3, f4, f5⟩ := F; exact ⟨t, kb, f1.ext E, f2.ext E, f3.ext E, f4.ext E, f5⟩
theorem LS.exa {Z : State} {h : Heap} {a : Addr} {cs : List Int32} (F : LS Z h a cs) : Exa Z h a "java/lang/String" := by obtain ⟨t, kb, f1, -⟩ := F; exact f1
theorem LS.lt {Z : State} {h : Heap} {a : Addr} {cs : List Int32} (F : LS Z h a cs) : a < h.size := F.exa.lt
theorem up255 {cs : List Int32} (h : ∀ c ∈ cs, ¬ c < 0 ∧ ¬ (255 : Int32) < c) : ∀ c ∈ cs, ¬ c < 0 ∧ ¬ (65535 : Int32) < c := fun c hc => ⟨(h c hc).1, fun q => (h c hc).2 (Int32.lt_trans (by decide) q)⟩
section Wide
variable {p : Program} {l : Launch} {e : Env} {R : Room} {m : MethodId} {args : Array Value} {below : List Frame} {meth : Method} {c : Code} {own : String} {bytes : ByteArray} {maxL : Nat} {Z s s' T : State} {EL : List (String × Nat)} {locs : List Loc} {cells slots : Nat} {h h' : Heap} {G : Outcome → State → Prop} {pc : Nat} {Ls : Array Slot} {S : List Value} {a0 : Array Value} {Q : Option Value → Heap → List Loc → Prop} {ck sk : Nat} {a : Addr} {sl : Nat} {v : Value} {ws : List Addr}
/-- the invariant of a walk that may load literals: the tables have gone on from s's, and the constants of EL say their texts -/
def WI (Z : State) (EL : List (String × Nat)) (s : State) : State → Heap → Prop := fun s' h => ∃ vm0 k0, s' = s.setVm vm0 ∧ s.Since vm0 k0 ∧ k0 ≤ h.size ∧ CHr Z EL s.vm s.heap vm0 h
theorem WI.ext (H : WI Z EL s s' h) (E : Ext h h') : WI Z EL s s' h' := by
  obtain ⟨vm0, k0, q1, q2, q3, q4⟩ := H; exact ⟨vm0, k0, q1, q2, Nat.le_trans q3 E.1, q4.trans (CHr.ext E q4.1)⟩
theorem WI.wr (H : WI Z EL s s' h) (S : Safe Z EL s'.vm h a) (W : Wr h h' a sl v) : WI Z EL s s' h' := by
  obtain ⟨vm0, k0, rfl, q2, q3, q4⟩ := H
  exact ⟨vm0, k0, rfl, q2, by rw [W.size]; exact q3, q4.trans (CHr.wr W S q4.1)⟩
theorem WI.keep (H : WI Z EL s s' h) (S : ∀ x ∈ ws, Safe Z EL s'.vm h x) (K : Keep h h' ws) : WI Z EL s s' h' := by
  obtain ⟨vm0, k0, rfl, q2, q3, q4⟩ := H
  exact ⟨vm0, k0, rfl, q2, Nat.le_trans q3 K.1, q4.trans (CHr.keep K S q4.1)⟩
theorem WI.chv (H : WI Z EL s s' h) : CHv Z EL s'.vm h := by obtain ⟨vm0, k0, rfl, q2, q3, q4⟩ := H; exact q4.1
theorem WI.safeExt (H : WI Z EL s s' h) (E : Ext h h') (S : Safe Z EL s'.vm h a) : Safe Z EL s'.vm h' a := S.ext E H.chv
theorem WI.safeNew (H : WI Z EL s s' h) (E : Ext h h') (q : a = h.size) : Safe Z EL s'.vm h' a := Safe.ext E H.chv (Safe.new (Nat.le_of_eq q.symm))
theorem WI.safeWr {b : Addr} (H : WI Z EL s s' h) (Sb : Safe Z EL s'.vm h b) (W : Wr h h' b sl v) (S : Safe Z EL s'.vm h a) : Safe Z EL s'.vm h' a := Safe.wr W Sb H.chv S
theorem WI.safeKeep (H : WI Z EL s s' h) (Sb : ∀ x ∈ ws, Safe Z EL s'.vm h x) (K : Keep h h' ws) (S : Safe Z EL s'.vm h a) : Safe Z EL s'.vm h' a := Safe.keep K Sb H.chv S
/-- what a walk that may load literals ends in -/
def WG (Z : State) (EL : List (String × Nat)) (s : State) (Q : Option Value → Heap → List Loc → Prop) (ck sk : Nat) : Outcome → State → Prop := fun o U' => ∃ v L, o = .returned v ∧ Q v U'.heap L ∧ CHr Z EL s.vm s.heap U'.vm U'.heap ∧ ReturnedEndW s o U' L ck sk
theorem r_genw (D : Wk p l e R m args below meth c own bytes maxL Z (WI Z EL s) s' T locs cells slots h) (hEW : EW Z a0 EL) {v : Option Value} (hv : meth.sig.returnType = none → v = none) (hlk : meth.locks = false) (hst : ∀ fs, (∀ (f : JFrame) (acts : List Action), f.method = m → f.locked = none → f.entered = [] → (doReturn e (T.setTop f) acts v).1 = T.setFrames fs) → Steps p.tables e below (T.setTop (mkF m pc Ls S)) (T.setFrames fs)) (hQ : Q v h locs) (hc : cells ≤ ck) (hs : slots ≤ sk) : Go p e below (WG Z EL s Q ck sk) (T.setTop (mkF m pc Ls S)) := by
  obtain ⟨vm0, k0, rfl, q2, q3, q4⟩ := D.iv
  obtain ⟨fs, hr, hrun, hended, hW⟩ := D.st.leaveW q2 (by rw [D.eq]; exact q3) (v := v) hv hlk
  refine ⟨_, _, hst fs hr, hrun, hended, _, _, rfl, ?_, ?_, hW.1, hW.2.1, hW.2.2.1, hW.2.2.2.mono hc hs⟩
  · show Q v T.heap locs
    rw [D.eq]; exact hQ
  · show CHr Z EL s.vm s.heap T.vm T.heap
    rw [D.eq]; exact q4.trans (CHv.at D.st D.wm hEW q4.1)
theorem r_Iw (D : Wk p l e R m args below meth c own bytes maxL Z (WI Z EL s) s' T locs cells slots h) (hEW : EW Z a0 EL) {z : Int32} (hret : meth.sig.returnType = some .int) (hlk : meth.locks = false) (hd : decode bytes pc = .ok (.ireturn, 1)) (hQ : Q (some (.int z)) h locs) (hc : cells ≤ ck) (hs : slots ≤ sk) : Go p e below (WG Z EL s Q ck sk) (T.setTop (mkF m pc Ls (.int z :: S))) :=
  r_genw D hEW (fun h => by rw [hret] at h; cases h) hlk (fun fs hr => retOut D.st D.ex hret rfl (Or.inl ⟨rfl, Or.inl rfl, _, rfl⟩) (hb D.cb hd) hr) hQ hc hs
theorem r_Nw (D : Wk p l e R m args below meth c own bytes maxL Z (WI Z EL s) s' T locs cells slots h) (hEW : EW Z a0 EL) {t : FieldType} {z : Int32} (hret : meth.sig.returnType = some t) (ht : t = .boolean ∨ t = .byte ∨ t = .char ∨ t = .short) (hlk : meth.locks = false) (hd : decode bytes pc = .ok (.ireturn, 1)) (hQ : Q (some (.int (nar t z))) h locs) (hc : cells ≤ ck) (hs : slots ≤ sk) : Go p e below (WG Z EL s Q ck sk) (T.setTop (mkF m pc Ls (.int z :: S))) :=
  r_genw D hEW (fun h => by rw [hret] at h; cases h) hlk (fun fs hr => retN D.st D.ex hret ht (hb D.cb hd) hr) hQ hc hs
theorem r_Aw (D : Wk p l e R m args below meth c own bytes maxL Z (WI Z EL s) s' T locs cells slots h) (hEW : EW Z a0 EL) {t : FieldType} {w : Value} (hret : meth.sig.returnType = some t) (ht : t.isReference = true) (hw : w.isRef = true) (hlk : meth.locks = false) (hd : decode bytes pc = .ok (.areturn, 1)) (hQ : Q (some w) h locs) (hc : cells ≤ ck) (hs : slots ≤ sk) : Go p e below (WG Z EL s Q ck sk) (T.setTop (mkF m pc Ls (w :: S))) :=
  r_genw D hEW (fun h => by rw [hret] at h; cases h) hlk (fun fs hr => retOut D.st D.ex hret (by cases t <;> first | (cases ht; done) | rfl) (Or.inr (Or.inr (Or.inr (Or.inr ⟨rfl, ht, hw⟩)))) (hb D.cb hd) hr) hQ hc hs
theorem r_Vw (D : Wk p l e R m args below meth c own bytes maxL Z (WI Z EL s) s' T locs cells slots h) (hEW : EW Z a0 EL) (hret : meth.sig.returnType = none) (hlk : meth.locks = false) (hd : decode bytes pc = .ok (.return_, 1)) (hQ : Q none h locs) (hc : cells ≤ ck) (hs : slots ≤ sk) : Go p e below (WG Z EL s Q ck sk) (T.setTop (mkF m pc Ls [])) :=
  r_genw D hEW (fun _ => rfl) hlk (fun fs hr => D.st.returnOut D.ex hret (hb D.cb hd) hr) hQ hc hs
/-- a contract of a body that may load literals -/
abbrev ConW (l : Launch) (y : MethodName) (bytes : ByteArray) (maxL : Nat) (ret : Option FieldType) (ws : List Jvm.Cond) (rm : Room) (Z : State) (EL : List (String × Nat)) (as' : Array Value) (h0 : Heap) (Q : Option Value → Heap → List Loc → Prop) (ck sk : Nat) : Prop :=
  MetFree l y (head1 (Jvm.Cond.code y bytes maxL ret :: ws) rm) (fun a U => a = as' ∧ Z.Warmed39 U.vm ∧ U.heap = h0 ∧ CHv Z EL U.vm h0) (fun _ _ _ _ _ => True) (fun _ U o U' => ∃ v L, o = .returned v ∧ Q v U'.heap L ∧ CHr Z EL U.vm U.heap U'.vm U'.heap ∧ ReturnedEndW U o U' L ck sk)
theorem enterW {y : MethodName} {ret : Option FieldType} {ws : List Jvm.Cond} {rm : Room} {as' : Array Value} {h0 : Heap} (hpl : plainFor y = true)
    (k : ∀ p e s m below meth c s₁, meth.name = y.name → meth.sig.returnType = ret → meth.locks = false → Wk p l e rm m as' below meth c y.cls bytes maxL Z (WI Z EL s) s s₁ [] 0 0 h0 → Go p e below (WG Z EL s Q ck sk) (s₁.setTop (entryFrame m as' maxL))) :
    ConW l y bytes maxL ret ws rm Z EL as' h0 Q ck sk := by
  refine MetFree.of_bodySF hpl hisR ?_
  intro p e s m args below meth c s₁ Bd hml0 hP hK
  obtain ⟨rfl, hZ, hh, hC⟩ := hP
  have X0 : Stand p l e rm s m _ below meth c s₁ [] 0 0 := Stand.of_body Bd
  exact k p e s m below meth c s₁ (name_of_methodNamed Bd.named Bd.method).1 Bd.returns Bd.notSynchronized ⟨X0, by rw [← hh, Bd.state]; rfl, hZ, findClass_of_methodNamed Bd.named, Bd.exec, Bd.bytes, hml0, s.vm, s.heap.size, (State.setVm_self s).symm, (State.WarmedH.refl s).since _, by rw [hh]; exact Nat.le_refl _, by rw [hh]; exact CHr.refl hC⟩
theorem g_callSW (D : Wk p l e R m args below meth c own bytes maxL Z (WI Z EL s) s' T locs cells slots h) (pc' : Nat) {index : Nat} {y : MethodName} {bz : ByteArray} {mL : Nat} {ret' : Option FieldType} {rm : Room} {as' : Array Value} (hEW : EW Z a0 EL) (w1 : (Cond.methodLink own index y).before a0 Z = true) (w2 : (Cond.static y).before a0 Z = true) (w3 : (Cond.initialized y.cls).before a0 Z = true) (w4 : (Cond.code y bz mL ret').before a0 Z = true) (hy : y.cls ≠ "java/lang/invoke/MethodHandle" ∧ y.cls ≠ "java/lang/invoke/VarHandle")
    (hM : ConW l y bz mL ret' [] rm Z EL as' h Q rm.cells rm.slots) (hsz : Ls.size = maxL) (argsL : List Value) (has : argsL.toArray = as') (hlen : ∀ sig, parseMethodDescriptor y.desc = some sig → argsL.length = sig.parameters.length) {S0 : List Value} (hst : S0 = argsL.reverse ++ S) (W : Nat) (hW : (S.map fun v => v.category).sum ≤ W) (hf : rm.frames + 1 ≤ R.frames) (hlo : W + (mL + 11) + rm.locals ≤ R.locals) (hc : cells + rm.cells ≤ R.cells) (hl : slots + rm.slots ≤ R.slots) (hd : decode bytes pc = .ok (.invokestatic index, 3)) (hp : pc + 3 = pc')
    (hr : ∀ v s'' T' h' L, Q v h' L → (∀ x, x < h.size → Safe Z EL s'.vm h x → Safe Z EL s''.vm h' x) → Wk p l e R m args below meth c own bytes maxL Z (WI Z EL s) s'' T' (locs ++ L) (cells + rm.cells) (slots + rm.slots) h' → Go p e below G (T'.setTop (mkF m pc' Ls (v.toList ++ S)))) : Go p e below G (T.setTop (mkF m pc Ls S0)) := by
  subst hp hst
  obtain ⟨vm0, k0, rfl, q2, q3, q4⟩ := D.iv
  obtain ⟨v, _, ⟨T', L', k', n'⟩, -, X', hS', hg, ⟨L, hQ, l', y', z', hR⟩, st⟩ := callSS D.st D.ex D.ow (mvT D.wm w1) (mvT D.wm w2) (mvT D.wm w3) (mvT D.wm w4) hy (backOfSH (s := s) (W := W) hM D.wm w4 w3 hf hlo hEW q4.1) (g := mkF m pc Ls (argsL.reverse ++ S)) rfl (by rw [D.ml]; exact hsz) (argsL := argsL) (rest := S) hlen rfl (by simpa using hW) (hb D.cb hd) (fun _ _ => ⟨has, D.eq, hc, hl⟩)
  dsimp only at X' l' y' z' st hQ hS' hg hR
  subst l' y' z'
  obtain ⟨X2, S2, Z2, O2⟩ := rebS q2 (n1 := T.heap.size) (by rw [D.eq]; exact q3) X' hS' hg D.wm D.ow
  exact Go.mono (fun t k => st.trans k) (hr v (s.setVm T'.vm) T' T'.heap L hQ (fun x hx Sx => hR.safe hx Sx) ⟨X2, rfl, Z2, O2, D.ex, D.cb, D.ml, T'.vm, _, rfl, S2, Nat.le_refl _, q4.trans hR⟩)
theorem g_callNW (D : Wk p l e R m args below meth c own bytes maxL Z (WI Z EL s) s' T locs cells slots h) (pc' : Nat) {index : Nat} {y : MethodName} {bz : ByteArray} {mL : Nat} {rm : Room} {as' : Array Value} (hEW : EW Z a0 EL) (hy1 : y.name = "<init>") (w1 : (Cond.methodLink own index y).before a0 Z = true) (w2 : (Cond.instanceMethod y).before a0 Z = true) (w3 : (Cond.initialized y.cls).before a0 Z = true) (w4 : (Cond.code y bz mL none).before a0 Z = true) (hy : y.cls ≠ "java/lang/invoke/MethodHandle" ∧ y.cls ≠ "java/lang/invoke/VarHandle")
    (hM : ConW l y bz mL none [] rm Z EL as' h Q rm.cells rm.slots) {b : Addr} (hsz : Ls.size = maxL) (argsL : List Value) (has : (.ref b :: argsL).toArray = as') (hlen : ∀ sig, parseMethodDescriptor y.desc = some sig → argsL.length = sig.parameters.length) {S0 : List Value} (hst : S0 = argsL.reverse ++ .ref b :: S) (W : Nat) (hW : (S.map fun v => v.category).sum ≤ W) (hf : rm.frames + 1 ≤ R.frames) (hlo : W + (mL + 11) + rm.locals ≤ R.locals) (hc : cells + rm.cells ≤ R.cells) (hl : slots + rm.slots ≤ R.slots) (hd : decode bytes pc = .ok (.invokespecial index, 3)) (hp : pc + 3 = pc')
    (hr : ∀ v s'' T' h' L, Q v h' L → (∀ x, x < h.size → Safe Z EL s'.vm h x → Safe Z EL s''.vm h' x) → Wk p l e R m args below meth c own bytes maxL Z (WI Z EL s) s'' T' (locs ++ L) (cells + rm.cells) (slots + rm.slots) h' → Go p e below G (T'.setTop (mkF m pc' Ls (v.toList ++ S)))) : Go p e below G (T.setTop (mkF m pc Ls S0)) := by
  subst hp hst
  obtain ⟨vm0, k0, rfl, q2, q3, q4⟩ := D.iv
  obtain ⟨v, _, ⟨T', L', k', n'⟩, -, X', hS', hg, ⟨L, hQ, l', y', z', hR⟩, st⟩ := D.st.specialBackS D.ex (y := y) hy1 D.ow (mvT D.wm w1) (mvT D.wm w2) (mvT D.wm w4) hy (backOfSH (s := s) (W := W) hM D.wm w4 w3 hf hlo hEW q4.1) (g := mkF m pc Ls (argsL.reverse ++ .ref b :: S)) rfl (by rw [D.ml]; exact hsz) (Steps.refl _) (a := b) (argsL := argsL) (rest := S) hlen rfl (by simpa using hW) (hb D.cb hd) (fun _ _ => ⟨has, D.eq, hc, hl⟩)
  dsimp only at X' l' y' z' st hQ hS' hg hR
  subst l' y' z'
  obtain ⟨X2, S2, Z2, O2⟩ := rebS q2 (n1 := T.heap.size) (by rw [D.eq]; exact q3) X' hS' hg D.wm D.ow
  exact Go.mono (fun t k => st.trans k) (hr v (s.setVm T'.vm) T' T'.heap L hQ (fun x hx Sx => hR.safe hx Sx) ⟨X2, rfl, Z2, O2, D.ex, D.cb, D.ml, T'.vm, _, rfl, S2, Nat.le_refl _, q4.trans hR⟩)
theorem g_callVW (D : Wk p l e R m args below meth c own bytes maxL Z (WI Z EL s) s' T locs cells slots h) (pc' : Nat) {index : Nat} {y z : MethodName} {C : String} {bz : ByteArray} {mL : Nat} {ret' : Option FieldType} {rm : Room} {as' : Array Value} (hEW : EW Z a0 EL) (w1 : (Cond.methodLink own index y).before a0 Z = true) (w2 : (Cond.declares y).before a0 Z = true) (w5 : (Cond.selects y.cls y y).before a0 Z = true) (w6 : (Cond.selects C y z).before a0 Z = true) (w7 : (Cond.instanceMethod z).before a0 Z = true) (w3 : (Cond.initialized z.cls).before a0 Z = true) (w4 : (Cond.code z bz mL ret').before a0 Z = true) (hy : y.cls ≠ "java/lang/invoke/MethodHandle" ∧ y.cls ≠ "java/lang/invoke/VarHandle")
    (hM : ConW l z bz mL ret' [] rm Z EL as' h Q rm.cells rm.slots) {b : Addr} (E : Exa Z h b C) (hsz : Ls.size = maxL) (argsL : List Value) (has : (.ref b :: argsL).toArray = as') (hlen : ∀ sig, parseMethodDescriptor y.desc = some sig → argsL.length = sig.parameters.length) {S0 : List Value} (hst : S0 = argsL.reverse ++ .ref b :: S) (W : Nat) (hW : (S.map fun v => v.category).sum ≤ W) (hf : rm.frames + 1 ≤ R.frames) (hlo : W + (mL + 11) + rm.locals ≤ R.locals) (hc : cells + rm.cells ≤ R.cells) (hl : slots + rm.slots ≤ R.slots) (hd : decode bytes pc = .ok (.invokevirtual index, 3)) (hp : pc + 3 = pc')
    (hr : ∀ v s'' T' h' L, Q v h' L → (∀ x, x < h.size → Safe Z EL s'.vm h x → Safe Z EL s''.vm h' x) → Wk p l e R m args below meth c own bytes maxL Z (WI Z EL s) s'' T' (locs ++ L) (cells + rm.cells) (slots + rm.slots) h' → Go p e below G (T'.setTop (mkF m pc' Ls (v.toList ++ S)))) : Go p e below G (T.setTop (mkF m pc Ls S0)) := by
  subst hp hst
  obtain ⟨cq, kq, qa, qb, qc⟩ := isOf D.wm D.eq E
  obtain ⟨vm0, k0, rfl, q2, q3, q4⟩ := D.iv
  obtain ⟨v, _, ⟨T', L', k', n'⟩, -, X', hS', hg, ⟨L, hQ, l', y', z', hR⟩, st⟩ := D.st.virtualBackS D.ex (y := y) (z := z) D.ow (mvT D.wm w1) (mvT D.wm w2) (notFace_of_selects (args := #[]) (mvT D.wm w5)) (mvT D.wm w6) (mvT D.wm w7) hy (backOfSH (s := s) (W := W) hM D.wm w4 w3 hf hlo hEW q4.1) qa qc (g := mkF m pc Ls (argsL.reverse ++ .ref b :: S)) rfl (by rw [D.ml]; exact hsz) (Steps.refl _) (argsL := argsL) (rest := S) hlen rfl (by simpa using hW) (hb D.cb hd) (fun _ _ => ⟨has, D.eq, hc, hl⟩)
  dsimp only at X' l' y' z' st hQ hS' hg hR
  subst l' y' z'
  obtain ⟨X2, S2, Z2, O2⟩ := rebS q2 (n1 := T.heap.size) (by rw [D.eq]; exact q3) X' hS' hg D.wm D.ow
  exact Go.mono (fun t k => st.trans k) (hr v (s.setVm T'.vm) T' T'.heap L hQ (fun x hx Sx => hR.safe hx Sx) ⟨X2, rfl, Z2, O2, D.ex, D.cb, D.ml, T'.vm, _, rfl, S2, Nat.le_refl _, q4.trans hR⟩)
theorem g_ldcS (D : Wk p l e R m args below meth c own bytes maxL Z (WI Z EL s) s' T locs cells slots h) (pc' : Nat) {text : String} {index : Nat} (hEW : EW Z a0 EL) (w : (Cond.stringLink own index text).before a0 Z = true) (wS : ∀ a ∈ Bundle.stringAtoms, a.before a0 Z = true) (hmem : (own, index) ∈ EL) (cs : List Int32) (n : Nat) (ht : (∀ c ∈ text.toList, c.toNat < 256) ∧ text.toList.map (fun c => Value.int (Jvm.Lit.byteI c.toNat.toUInt16)) = (cs.map StrChars.lo8).map Value.int) (hcs : (∀ c ∈ cs, ¬ c < 0 ∧ ¬ (255 : Int32) < c) ∧ cs.length ≤ 4000) (hn : 4 * text.toList.length ≤ n) (hbig : n ≤ 536870912) (hd : decode bytes pc = .ok (.ldc index, 2)) (hc : cells + 2 ≤ R.cells) (hl : slots + (n + 4) ≤ R.slots) (hp : pc + 2 = pc')
    (hr : ∀ s'' T' h' a t kb, Ext h h' → Exa Z h' a "java/lang/String" → Fld Z h' a "java/lang/String" "coder" "B" (.int 0) → Fld Z h' a "java/lang/String" "value" "[B" (.ref t) → Arv Z h' t kb .byte (Int32.ofNat cs.length) ((cs.map StrChars.lo8).map Value.int) (.int 0) → (∀ x, Safe Z EL s''.vm h' x → x ≠ a ∧ x ≠ t) → (∀ x, x < h.size → Safe Z EL s'.vm h x → Safe Z EL s''.vm h' x) → Wk p l e R m args below meth c own bytes maxL Z (WI Z EL s) s'' T' locs (cells + 2) (slots + (n + 4)) h' → Go p e below G (T'.setTop (mkF m pc' Ls (.ref a :: S)))) : Go p e below G (T.setTop (mkF m pc Ls S)) := by
  subst hp
  obtain ⟨vm0, k0, rfl, q2, q3, q4⟩ := D.iv
  have hz : ¬ (Int32.ofNat cs.length) < 0 := by
    have q : (Int32.ofNat cs.length).toInt = cs.length := Int32.toInt_ofNat_small (by omega)
    rw [Int32.lt_iff_toInt_lt, q, show (0 : Int32).toInt = 0 from rfl]; omega
  have hz2 : (Int32.ofNat cs.length).toNatClampNeg = ((cs.map StrChars.lo8).map Value.int).length := by
    have q : (Int32.ofNat cs.length).toInt = cs.length := Int32.toInt_ofNat_small (by omega)
    simp only [Int32.toNatClampNeg, q, List.length_map]; omega
  obtain ⟨a, T', h', k1, b, k, X', e', E', S', hk', Z', O', x1, x2, x3, x4, -, -, hR, -, hsf, st⟩ := ldcCH (s := s) D.st D.ex D.wm D.ow w wS D.eq q2 q3 hEW hmem q4.1 ht hz hz2 (g := mkF m pc Ls S) rfl (hb D.cb hd) hn hbig hc hl
  exact Go.mono st (hr (s.setVm T'.vm) T' h' a b k E' x1 x2 x3 x4 hsf (fun x hx Sx => hR.safe hx Sx) ⟨X', e', Z', O', D.ex, D.cb, D.ml, T'.vm, k1, rfl, S', hk', q4.trans hR⟩)
end Wide
theorem safe_null {Z : State} {EL : List (String × Nat)} {vm : Vm} {h : Heap} {x : Addr} (hal : Z.vm.Alike vm) (E : Exa Z h x "java/lang/String") (V : Fld Z h x "java/lang/String" "value" "[B" .null) : Safe Z EL vm h x := fun B => by
  obtain ⟨p, -, u, a, -, q, -, F, rfl | rfl⟩ := B
  · obtain ⟨cell, cf, k, i, f, h1, h2, -, -, -, -, h7⟩ := V
    cases (show h[q.sa]? = some q.sC from F.ha).symm.trans h1
    obtain ⟨cS, ⟨⟨-, -, -, ⟨c1, k1, i1, f1, -⟩, -, -, -, v1, -⟩, -⟩, -⟩ := F
    obtain ⟨k3, e3, -⟩ := State.fieldFound?_setVm (s := Z) hal h2
    have e4 := (show (Wst Z vm h).fieldFound? _ _ _ = _ from e3).symm.trans f1
    simp only [Option.some.injEq, Prod.mk.injEq] at e4
    rw [e4.2.2.2, v1] at h7
    cases h7
  · obtain ⟨cell, k, e1, e2, e3, -, -⟩ := E
    cases (show h[q.sd]? = some q.SA from F.hd).symm.trans e1
    obtain ⟨cS, -, -, f, -⟩ := F
    have f' : vm.findClass "[B" = some q.SA.cls := f
    rw [hal.findClass] at f'
    obtain ⟨k1, q1, q2⟩ := Vm.findClass_spec f'
    obtain ⟨k2, q3, q4⟩ := Vm.findClass_spec e2
    cases q1.symm.trans q3
    exact absurd (q2.symm.trans q4) (by decide)
theorem Keep.toExt {h h' : Heap} (K : Keep h h' []) : Ext h h' := ⟨K.1, fun a c q => K.2.1 a c q nin0⟩
theorem Ext.trans' {h h1 h2 : Heap} (E : Ext h h1) (F : Ext h1 h2) : Ext h h2 := ⟨Nat.le_trans E.1 F.1, fun a c q => F.2 a c (E.2 a c q)⟩
/-- a char below 256 -/
abbrev B8 (c : Int32) : Prop := ¬ c < 0 ∧ ¬ (255 : Int32) < c
theorem b8_nil : ∀ c ∈ ([] : List Int32), B8 c := fun _ q => nomatch q
theorem b8_cons {a : Int32} {L : List Int32} (h : B8 a) (r : ∀ c ∈ L, B8 c) : ∀ c ∈ a :: L, B8 c := fun c q => (List.mem_cons.mp q).elim (fun e => e ▸ h) (r c)
theorem i2c_ch {c : Int32} (h0 : ¬ c < 0) (h1 : ¬ (65535 : Int32) < c) : c.toUInt32.toUInt16.toUInt32.toInt32 = c := by
  rw [Int32.lt_iff_toInt_lt, show (0 : Int32).toInt = 0 from rfl] at h0
  rw [Int32.lt_iff_toInt_lt, show (65535 : Int32).toInt = 65535 from rfl] at h1
  have e : c.toInt = c.toBitVec.toNat := by
    have q : c.toInt = c.toBitVec.toInt := rfl
    have lt := c.toBitVec.isLt
    rw [q, BitVec.toInt_eq_toNat_cond] at h0
    rw [q, BitVec.toInt_eq_toNat_cond]
    by_cases g : 2 * c.toBitVec.toNat < 2 ^ 32
    · rw [if_pos g]
    · rw [if_neg g] at h0; omega
  apply Int32.toBitVec_inj.mp
  apply BitVec.eq_of_toNat_eq
  show (c.toUInt32.toUInt16.toUInt32).toBitVec.toNat = _
  have q : (c.toUInt32.toUInt16.toUInt32).toNat = c.toUInt32.toNat % 65536 := by simp
  have q2 : c.toUInt32.toNat = c.toBitVec.toNat := rfl
  show (c.toUInt32.toUInt16.toUInt32).toNat = _
  rw [q, q2]; omega
theorem nar_c {c : Int32} (h : B8 c) : nar .char c = c := i2c_ch h.1 (fun q => h.2 (Int32.lt_trans (by decide) q))
theorem b8_and (x : Int32) : B8 (x &&& (255 : Int32)) := by
  have h : (x &&& 255).toBitVec.toNat < 256 := by
    simp only [Int32.toBitVec_and, BitVec.toNat_and]
    exact Nat.lt_succ_of_le Nat.and_le_right
  have e : (x &&& 255).toInt = (x &&& 255).toBitVec.toNat := by
    show (x &&& 255).toBitVec.toInt = _
    rw [BitVec.toInt_eq_toNat_cond, if_pos (by omega)]
  show ¬ (x &&& 255) < 0 ∧ ¬ (255 : Int32) < (x &&& 255)
  rw [Int32.lt_iff_toInt_lt, Int32.lt_iff_toInt_lt, e, show (0 : Int32).toInt = 0 from rfl, show (255 : Int32).toInt = 255 from rfl]
  omega
theorem and_le (x : Int32) {k : Int32} {K : Nat} (hk : k.toBitVec.toNat = K) (hK : K < 2147483648) : 0 ≤ (x &&& k).toInt ∧ (x &&& k).toInt ≤ K := by
  have h : (x &&& k).toBitVec.toNat ≤ K := by
    simp only [Int32.toBitVec_and, BitVec.toNat_and]
    rw [← hk]; exact Nat.and_le_right
  have e : (x &&& k).toInt = (x &&& k).toBitVec.toNat := by
    show (x &&& k).toBitVec.toInt = _
    rw [BitVec.toInt_eq_toNat_cond, if_pos (by omega)]
  rw [e]; omega
theorem i2c_b8 {c : Int32} (h : B8 c) : c.toUInt32.toUInt16.toUInt32.toInt32 = c := i2c_ch h.1 (fun q => h.2 (Int32.lt_trans (by decide) q))
theorem b8_i2c (x : Int32) : B8 ((x &&& (255 : Int32)).toUInt32.toUInt16.toUInt32.toInt32) := by rw [i2c_b8 (b8_and x)]; exact b8_and x
theorem own_r1 : some (Value.int (nar .boolean (1 : Int32))) = some (Value.int 1) := by decide
theorem own_nar1 : nar .boolean (1 : Int32) = 1 := by decide
theorem own_nar0 : nar .boolean (0 : Int32) = 0 := by decide
/-- a boolean that says whether P -/
def own_B (P : Prop) (v : Option Value) : Prop := ∃ r : Int32, v = some (.int r) ∧ ((r = 1 ∧ P) ∨ (r = 0 ∧ ¬ P))
def own_R (P : Prop) (r : Int32) : Prop := (r = 1 ∧ P) ∨ (r = 0 ∧ ¬ P)
theorem own_R.same {P Q : Prop} {r t : Int32} (h : own_R P r) (k : own_R Q t) (e : P ↔ Q) : r = t := by
  rcases h with ⟨rfl, p⟩ | ⟨rfl, p⟩ <;> rcases k with ⟨rfl, q⟩ | ⟨rfl, q⟩
  · rfl
  · exact absurd (e.mp p) q
  · exact absurd (e.mpr q) p
  · rfl
theorem own_R.yes {P : Prop} {r : Int32} (h : own_R P r) (p : P) : r = 1 := by rcases h with ⟨h, -⟩ | ⟨-, n⟩; exact h; exact absurd p n
theorem own_R.no {P : Prop} {r : Int32} (h : own_R P r) (p : ¬ P) : r = 0 := by rcases h with ⟨-, n⟩ | ⟨h, -⟩; exact absurd n p; exact h
theorem own_ninst {Z : State} {a0 : Array Value} {K : String} {n : Nat} (wS : (Cond.superclass "java/lang/String" "java/lang/Object").before a0 Z = true) (wO : (Cond.noSuperclass "java/lang/Object").before a0 Z = true) (wi : (Cond.instantiable K n).before a0 Z = true) (h1 : "java/lang/String" ≠ K) (h2 : "java/lang/Object" ≠ K) : ∃ c t, Z.vm.findClass "java/lang/String" = some c ∧ Z.vm.findClass K = some t ∧ Z.vm.assignable c t = false := by
  obtain ⟨t, kt, g1, g2, g3, g4, -⟩ := Cond.instantiable_spec wi
  obtain ⟨c, h0⟩ := found_sup wS
  obtain ⟨o, k, ko, e1, e2, e3, e4, e5, -, e7⟩ := Cond.superclass_spec h0 wS
  obtain ⟨o', ko', f1, f2, f3, -⟩ := Cond.noSuperclass_spec wO
  cases e1.symm.trans f1
  have n1 := ids_ne h0 g1 h1
  have n2 := ids_ne f1 g1 h2
  have g6 : kt.isInterface = false := by simp only [Bool.or_eq_false_iff] at g4; exact g4.1
  have q : ∀ fuel, Z.vm.isSubclassAux fuel c t = false := fun fuel => by
    cases fuel with
    | zero => rfl
    | succ f =>
      cases f with
      | zero => simp [Vm.isSubclassAux, n1, e2, e4]
      | succ g => simp [Vm.isSubclassAux, n1, n2, e2, e4, f2, f3]
  refine ⟨c, t, h0, g1, ?_⟩
  show Z.vm.assignableAux (255 + 1) c t = false
  simp [Vm.assignableAux, n1, e2, g2, e5, g3, g6, Vm.isSubclass, q]
theorem wsa : ∀ d ∈ Bundle.stringAtoms, d ∈ tables_1 := by decide +kernel
theorem weq : ∀ d ∈ StrChars.Road.wordsEq, d ∈ tables_1 := by decide +kernel
theorem wbv : ∀ d ∈ StrChars.Road.words, d ∈ tables_1 := by decide +kernel
theorem LS.eqB {p : Program} {l : Launch} {e : Env} {R : Room} {m : MethodId} {args : Array Value} {below : List Frame} {meth : Method} {c : Code} {own : String} {bytes : ByteArray} {maxL : Nat} {Z : State} {I : State → Heap → Prop} {s' T : State} {locs : List Loc} {cells slots : Nat} {h h1 : Heap} {a0 : Array Value} {x y : Addr} {cs ds : List Int32} {z : Int32} (W : Nat) {len : Nat}
    (D : Wk p l e R m args below meth c own bytes maxL Z I s' T locs cells slots h1) (hw : ∀ d ∈ tables_1, d.before a0 Z = true) (A : LS Z h x cs) (B : LS Z h y ds) (S : Sta Z h "java/lang/String" "COMPACT_STRINGS" "Z" (.int z)) (hz : ¬ z = 0) (hf : 2 ≤ R.frames) (hl : W + 28 ≤ R.locals) :
    Back l R p e below s' args (⟨"java/lang/String", "equals", "(Ljava/lang/Object;)Z"⟩ : MethodName) len W (fun P a => a = #[.ref x, .ref y] ∧ P.U.heap = h ∧ P.cells + 0 ≤ R.cells ∧ P.slots + 0 ≤ R.slots)
      (fun P _ v B => ∃ L, (((v = some (.int 1) ∧ cs = ds) ∨ (v = some (.int 0) ∧ ¬ cs = ds)) ∧ L = [] ∧ B.U.heap = h) ∧ B.locs = P.locs ++ L ∧ B.cells = P.cells + 0 ∧ B.slots = P.slots + 0) := by
  obtain ⟨t, kb, f1, f2, f3, f4, f5, f6⟩ := A
  obtain ⟨t', kb', g1, g2, g3, g4, g5, g6⟩ := B
  exact StrChars.Road.eqW D.wm (fun d hd => hw d (weq d hd)) (kI := 4) (hw _ w_5) f1 f3 f2 f4 (StrChars.Road.codOf rfl fun c hc => (f5 c hc).2) (up255 f5) f6 g1 g3 g2 g4 (StrChars.Road.codOf rfl fun c hc => (g5 c hc).2) (up255 g5) g6 S hz hf hl
def own_mk (n a b c : Int32) : List Int32 := if n = (0 : Int32) then [] else if n = (1 : Int32) then [a] else if n = (2 : Int32) then [a, b] else [a, b, c]
def own_cd (G : Nat → Addr) (i : Int32) : Addr := if i = (0 : Int32) then G 0 else if i = (1 : Int32) then G 1 else if i = (2 : Int32) then G 2 else if i = (3 : Int32) then G 3 else if i = (4 : Int32) then G 4 else if i = (5 : Int32) then G 5 else if i = (6 : Int32) then G 6 else if i = (7 : Int32) then G 7 else if i = (8 : Int32) then G 8 else if i = (9 : Int32) then G 9 else G 10
theorem own_03 {l : Int32} (h : 0 ≤ l.toInt ∧ l.toInt ≤ 3) : l = 0 ∨ l = 1 ∨ l = 2 ∨ l = 3 := by
  have e : ∀ k : Int32, l.toInt = k.toInt → l = k := fun k q => Int32.toInt_inj.mp q
  have : l.toInt = 0 ∨ l.toInt = 1 ∨ l.toInt = 2 ∨ l.toInt = 3 := by omega
  rcases this with q | q | q | q
  · exact Or.inl (e 0 q)
  · exact Or.inr (Or.inl (e 1 q))
  · exact Or.inr (Or.inr (Or.inl (e 2 q)))
  · exact Or.inr (Or.inr (Or.inr (e 3 q)))
theorem own_mk_iff {l1 l2 a0 a1 a2 b0 b1 b2 : Int32} (h1 : 0 ≤ l1.toInt ∧ l1.toInt ≤ 3) (h2 : 0 ≤ l2.toInt ∧ l2.toInt ≤ 3) : own_mk l1 a0 a1 a2 = own_mk l2 b0 b1 b2 ↔ (l1 = l2 ∧ (l1 < (1 : Int32) ∨ a0 = b0) ∧ (l1 < (2 : Int32) ∨ a1 = b1) ∧ (l1 < (3 : Int32) ∨ a2 = b2)) := by
  rcases own_03 h1 with rfl | rfl | rfl | rfl <;> rcases own_03 h2 with rfl | rfl | rfl | rfl <;> simp [own_mk] <;> try decide
theorem own_cd_at (G : Nat → Addr) {c : Int32} (h : 0 ≤ c.toInt ∧ c.toInt ≤ 10) : own_cd G c = G c.toInt.toNat := by
  have e : ∀ k : Int32, c.toInt = k.toInt → c = k := fun k q => Int32.toInt_inj.mp q
  have : c.toInt = 0 ∨ c.toInt = 1 ∨ c.toInt = 2 ∨ c.toInt = 3 ∨ c.toInt = 4 ∨ c.toInt = 5 ∨ c.toInt = 6 ∨ c.toInt = 7 ∨ c.toInt = 8 ∨ c.toInt = 9 ∨ c.toInt = 10 := by omega
  rcases this with q | q | q | q | q | q | q | q | q | q | q
  · obtain rfl := e 0 q; rfl
  · obtain rfl := e 1 q; rfl
  · obtain rfl := e 2 q; rfl
  · obtain rfl := e 3 q; rfl
  · obtain rfl := e 4 q; rfl
  · obtain rfl := e 5 q; rfl
  · obtain rfl := e 6 q; rfl
  · obtain rfl := e 7 q; rfl
  · obtain rfl := e 8 q; rfl
  · obtain rfl := e 9 q; rfl
  · obtain rfl := e 10 q; rfl
theorem own_cd_iff {G : Nat → Addr} (hG : ∀ i j, i < 11 → j < 11 → G i = G j → i = j) {c d : Int32} (h1 : 0 ≤ c.toInt ∧ c.toInt ≤ 10) (h2 : 0 ≤ d.toInt ∧ d.toInt ≤ 10) : own_cd G c = own_cd G d ↔ c = d := by
  refine ⟨fun q => ?_, fun q => by rw [q]⟩
  rw [own_cd_at G h1, own_cd_at G h2] at q
  have := hG _ _ (by omega) (by omega) q
  exact Int32.toInt_inj.mp (by omega)
theorem own_rem11 (x : Int32) : 0 ≤ ((x &&& (15 : Int32)) % (11 : Int32)).toInt ∧ ((x &&& (15 : Int32)) % (11 : Int32)).toInt ≤ 10 := by
  have h := and_le x (k := 15) (K := 15) (by decide) (by decide)
  have q := (c_irem (x &&& 15) 11 11 (by decide)).1 h.1
  rw [q]; omega
theorem own_iff {G : Nat → Addr} {l1 l2 i1 i2 a0 a1 a2 b0 b1 b2 : Int32} (hG : ∀ i j, i < 11 → j < 11 → G i = G j → i = j) (h1 : 0 ≤ l1.toInt ∧ l1.toInt ≤ 3) (h2 : 0 ≤ l2.toInt ∧ l2.toInt ≤ 3) (h3 : 0 ≤ i1.toInt ∧ i1.toInt ≤ 10) (h4 : 0 ≤ i2.toInt ∧ i2.toInt ≤ 10) :
    ((own_mk l1 a0 a1 a2 = own_mk l2 b0 b1 b2 ∧ own_cd G i1 = own_cd G i2) ↔ (l1 = l2 ∧ (l1 < (1 : Int32) ∨ a0 = b0) ∧ (l1 < (2 : Int32) ∨ a1 = b1) ∧ (l1 < (3 : Int32) ∨ a2 = b2) ∧ i1 = i2)) ∧ ((own_mk l2 b0 b1 b2 = own_mk l1 a0 a1 a2 ∧ own_cd G i2 = own_cd G i1) ↔ (l1 = l2 ∧ (l1 < (1 : Int32) ∨ a0 = b0) ∧ (l1 < (2 : Int32) ∨ a1 = b1) ∧ (l1 < (3 : Int32) ∨ a2 = b2) ∧ i1 = i2)) := by
  have q : (own_mk l1 a0 a1 a2 = own_mk l2 b0 b1 b2 ∧ own_cd G i1 = own_cd G i2) ↔ (l1 = l2 ∧ (l1 < (1 : Int32) ∨ a0 = b0) ∧ (l1 < (2 : Int32) ∨ a1 = b1) ∧ (l1 < (3 : Int32) ∨ a2 = b2) ∧ i1 = i2) := by
    rw [own_mk_iff h1 h2, own_cd_iff hG h3 h4]
    constructor
    · rintro ⟨⟨z1, z2, z3, z4⟩, z5⟩; exact ⟨z1, z2, z3, z4, z5⟩
    · rintro ⟨z1, z2, z3, z4, z5⟩; exact ⟨⟨z1, z2, z3, z4⟩, z5⟩
  exact ⟨q, ⟨fun z => q.mp ⟨z.1.symm, z.2.symm⟩, fun z => ⟨(q.mpr z).1.symm, (q.mpr z).2.symm⟩⟩⟩
theorem own_l0 {l1 l2 i1 i2 a0_ a1_ a2_ b0_ b1_ b2_ : Int32} (k0 : l1 = l2) (k1 : l1 < (1 : Int32)) (k2 : l1 < (2 : Int32)) (k3 : l1 < (3 : Int32)) (k4 : i1 = i2) : own_R (l1 = l2 ∧ (l1 < (1 : Int32) ∨ a0_ = b0_) ∧ (l1 < (2 : Int32) ∨ a1_ = b1_) ∧ (l1 < (3 : Int32) ∨ a2_ = b2_) ∧ i1 = i2) (1 : Int32) := by unfold own_R; grind
theorem own_l1 {l1 l2 i1 i2 a0_ a1_ a2_ b0_ b1_ b2_ : Int32} (k0 : l1 = l2) (k1 : l1 < (1 : Int32)) (k2 : l1 < (2 : Int32)) (k3 : l1 < (3 : Int32)) (k4 : ¬ (i1 = i2)) : own_R (l1 = l2 ∧ (l1 < (1 : Int32) ∨ a0_ = b0_) ∧ (l1 < (2 : Int32) ∨ a1_ = b1_) ∧ (l1 < (3 : Int32) ∨ a2_ = b2_) ∧ i1 = i2) (0 : Int32) := by unfold own_R; grind
theorem own_l2 {l1 l2 i1 i2 a0_ a1_ a2_ b0_ b1_ b2_ : Int32} (k0 : l1 = l2) (k1 : l1 < (1 : Int32)) (k2 : l1 < (2 : Int32)) (k3 : ¬ (l1 < (3 : Int32))) (k4 : a2_ = b2_) (k5 : i1 = i2) : own_R (l1 = l2 ∧ (l1 < (1 : Int32) ∨ a0_ = b0_) ∧ (l1 < (2 : Int32) ∨ a1_ = b1_) ∧ (l1 < (3 : Int32) ∨ a2_ = b2_) ∧ i1 = i2) (1 : Int32) := by unfold own_R; grind
theorem own_l3 {l1 l2 i1 i2 a0_ a1_ a2_ b0_ b1_ b2_ : Int32} (k0 : l1 = l2) (k1 : l1 < (1 : Int32)) (k2 : l1 < (2 : Int32)) (k3 : ¬ (l1 < (3 : Int32))) (k4 : a2_ = b2_) (k5 : ¬ (i1 = i2)) : own_R (l1 = l2 ∧ (l1 < (1 : Int32) ∨ a0_ = b0_) ∧ (l1 < (2 : Int32) ∨ a1_ = b1_) ∧ (l1 < (3 : Int32) ∨ a2_ = b2_) ∧ i1 = i2) (0 : Int32) := by unfold own_R; grind
theorem own_l4 {l1 l2 i1 i2 a0_ a1_ a2_ b0_ b1_ b2_ : Int32} (k0 : l1 = l2) (k1 : l1 < (1 : Int32)) (k2 : l1 < (2 : Int32)) (k3 : ¬ (l1 < (3 : Int32))) (k4 : ¬ (a2_ = b2_)) : own_R (l1 = l2 ∧ (l1 < (1 : Int32) ∨ a0_ = b0_) ∧ (l1 < (2 : Int32) ∨ a1_ = b1_) ∧ (l1 < (3 : Int32) ∨ a2_ = b2_) ∧ i1 = i2) (0 : Int32) := by unfold own_R; grind
theorem own_l5 {l1 l2 i1 i2 a0_ a1_ a2_ b0_ b1_ b2_ : Int32} (k0 : l1 = l2) (k1 : l1 < (1 : Int32)) (k2 : ¬ (l1 < (2 : Int32))) (k3 : a1_ = b1_) (k4 : l1 < (3 : Int32)) (k5 : i1 = i2) : own_R (l1 = l2 ∧ (l1 < (1 : Int32) ∨ a0_ = b0_) ∧ (l1 < (2 : Int32) ∨ a1_ = b1_) ∧ (l1 < (3 : Int32) ∨ a2_ = b2_) ∧ i1 = i2) (1 : Int32) := by unfold own_R; grind
theorem own_l6 {l1 l2 i1 i2 a0_ a1_ a2_ b0_ b1_ b2_ : Int32} (k0 : l1 = l2) (k1 : l1 < (1 : Int32)) (k2 : ¬ (l1 < (2 : Int32))) (k3 : a1_ = b1_) (k4 : l1 < (3 : Int32)) (k5 : ¬ (i1 = i2)) : own_R (l1 = l2 ∧ (l1 < (1 : Int32) ∨ a0_ = b0_) ∧ (l1 < (2 : Int32) ∨ a1_ = b1_) ∧ (l1 < (3 : Int32) ∨ a2_ = b2_) ∧ i1 = i2) (0 : Int32) := by unfold own_R; grind
theorem own_l7 {l1 l2 i1 i2 a0_ a1_ a2_ b0_ b1_ b2_ : Int32} (k0 : l1 = l2) (k1 : l1 < (1 : Int32)) (k2 : ¬ (l1 < (2 : Int32))) (k3 : a1_ = b1_) (k4 : ¬ (l1 < (3 : Int32))) (k5 : a2_ = b2_) (k6 : i1 = i2) : own_R (l1 = l2 ∧ (l1 < (1 : Int32) ∨ a0_ = b0_) ∧ (l1 < (2 : Int32) ∨ a1_ = b1_) ∧ (l1 < (3 : Int32) ∨ a2_ = b2_) ∧ i1 = i2) (1 : Int32) := by unfold own_R; grind
theorem own_l8 {l1 l2 i1 i2 a0_ a1_ a2_ b0_ b1_ b2_ : Int32} (k0 : l1 = l2) (k1 : l1 < (1 : Int32)) (k2 : ¬ (l1 < (2 : Int32))) (k3 : a1_ = b1_) (k4 : ¬ (l1 < (3 : Int32))) (k5 : a2_ = b2_) (k6 : ¬ (i1 = i2)) : own_R (l1 = l2 ∧ (l1 < (1 : Int32) ∨ a0_ = b0_) ∧ (l1 < (2 : Int32) ∨ a1_ = b1_) ∧ (l1 < (3 : Int32) ∨ a2_ = b2_) ∧ i1 = i2) (0 : Int32) := by unfold own_R; grind
theorem own_l9 {l1 l2 i1 i2 a0_ a1_ a2_ b0_ b1_ b2_ : Int32} (k0 : l1 = l2) (k1 : l1 < (1 : Int32)) (k2 : ¬ (l1 < (2 : Int32))) (k3 : a1_ = b1_) (k4 : ¬ (l1 < (3 : Int32))) (k5 : ¬ (a2_ = b2_)) : own_R (l1 = l2 ∧ (l1 < (1 : Int32) ∨ a0_ = b0_) ∧ (l1 < (2 : Int32) ∨ a1_ = b1_) ∧ (l1 < (3 : Int32) ∨ a2_ = b2_) ∧ i1 = i2) (0 : Int32) := by unfold own_R; grind
theorem own_l10 {l1 l2 i1 i2 a0_ a1_ a2_ b0_ b1_ b2_ : Int32} (k0 : l1 = l2) (k1 : l1 < (1 : Int32)) (k2 : ¬ (l1 < (2 : Int32))) (k3 : ¬ (a1_ = b1_)) : own_R (l1 = l2 ∧ (l1 < (1 : Int32) ∨ a0_ = b0_) ∧ (l1 < (2 : Int32) ∨ a1_ = b1_) ∧ (l1 < (3 : Int32) ∨ a2_ = b2_) ∧ i1 = i2) (0 : Int32) := by unfold own_R; grind
theorem own_l11 {l1 l2 i1 i2 a0_ a1_ a2_ b0_ b1_ b2_ : Int32} (k0 : l1 = l2) (k1 : ¬ (l1 < (1 : Int32))) (k2 : a0_ = b0_) (k3 : l1 < (2 : Int32)) (k4 : l1 < (3 : Int32)) (k5 : i1 = i2) : own_R (l1 = l2 ∧ (l1 < (1 : Int32) ∨ a0_ = b0_) ∧ (l1 < (2 : Int32) ∨ a1_ = b1_) ∧ (l1 < (3 : Int32) ∨ a2_ = b2_) ∧ i1 = i2) (1 : Int32) := by unfold own_R; grind
theorem own_l12 {l1 l2 i1 i2 a0_ a1_ a2_ b0_ b1_ b2_ : Int32} (k0 : l1 = l2) (k1 : ¬ (l1 < (1 : Int32))) (k2 : a0_ = b0_) (k3 : l1 < (2 : Int32)) (k4 : l1 < (3 : Int32)) (k5 : ¬ (i1 = i2)) : own_R (l1 = l2 ∧ (l1 < (1 : Int32) ∨ a0_ = b0_) ∧ (l1 < (2 : Int32) ∨ a1_ = b1_) ∧ (l1 < (3 : Int32) ∨ a2_ = b2_) ∧ i1 = i2) (0 : Int32) := by unfold own_R; grind
theorem own_l13 {l1 l2 i1 i2 a0_ a1_ a2_ b0_ b1_ b2_ : Int32} (k0 : l1 = l2) (k1 : ¬ (l1 < (1 : Int32))) (k2 : a0_ = b0_) (k3 : l1 < (2 : Int32)) (k4 : ¬ (l1 < (3 : Int32))) (k5 : a2_ = b2_) (k6 : i1 = i2) : own_R (l1 = l2 ∧ (l1 < (1 : Int32) ∨ a0_ = b0_) ∧ (l1 < (2 : Int32) ∨ a1_ = b1_) ∧ (l1 < (3 : Int32) ∨ a2_ = b2_) ∧ i1 = i2) (1 : Int32) := by unfold own_R; grind
theorem own_l14 {l1 l2 i1 i2 a0_ a1_ a2_ b0_ b1_ b2_ : Int32} (k0 : l1 = l2) (k1 : ¬ (l1 < (1 : Int32))) (k2 : a0_ = b0_) (k3 : l1 < (2 : Int32)) (k4 : ¬ (l1 < (3 : Int32))) (k5 : a2_ = b2_) (k6 : ¬ (i1 = i2)) : own_R (l1 = l2 ∧ (l1 < (1 : Int32) ∨ a0_ = b0_) ∧ (l1 < (2 : Int32) ∨ a1_ = b1_) ∧ (l1 < (3 : Int32) ∨ a2_ = b2_) ∧ i1 = i2) (0 : Int32) := by unfold own_R; grind
theorem own_l15 {l1 l2 i1 i2 a0_ a1_ a2_ b0_ b1_ b2_ : Int32} (k0 : l1 = l2) (k1 : ¬ (l1 < (1 : Int32))) (k2 : a0_ = b0_) (k3 : l1 < (2 : Int32)) (k4 : ¬ (l1 < (3 : Int32))) (k5 : ¬ (a2_ = b2_)) : own_R (l1 = l2 ∧ (l1 < (1 : Int32) ∨ a0_ = b0_) ∧ (l1 < (2 : Int32) ∨ a1_ = b1_) ∧ (l1 < (3 : Int32) ∨ a2_ = b2_) ∧ i1 = i2) (0 : Int32) := by unfold own_R; grind
theorem own_l16 {l1 l2 i1 i2 a0_ a1_ a2_ b0_ b1_ b2_ : Int32} (k0 : l1 = l2) (k1 : ¬ (l1 < (1 : Int32))) (k2 : a0_ = b0_) (k3 : ¬ (l1 < (2 : Int32))) (k4 : a1_ = b1_) (k5 : l1 < (3 : Int32)) (k6 : i1 = i2) : own_R (l1 = l2 ∧ (l1 < (1 : Int32) ∨ a0_ = b0_) ∧ (l1 < (2 : Int32) ∨ a1_ = b1_) ∧ (l1 < (3 : Int32) ∨ a2_ = b2_) ∧ i1 = i2) (1 : Int32) := by unfold own_R; grind
theorem own_l17 {l1 l2 i1 i2 a0_ a1_ a2_ b0_ b1_ b2_ : Int32} (k0 : l1 = l2) (k1 : ¬ (l1 < (1 : Int32))) (k2 : a0_ = b0_) (k3 : ¬ (l1 < (2 : Int32))) (k4 : a1_ = b1_) (k5 : l1 < (3 : Int32)) (k6 : ¬ (i1 = i2)) : own_R (l1 = l2 ∧ (l1 < (1 : Int32) ∨ a0_ = b0_) ∧ (l1 < (2 : Int32) ∨ a1_ = b1_) ∧ (l1 < (3 : Int32) ∨ a2_ = b2_) ∧ i1 = i2) (0 : Int32) := by unfold own_R; grind
theorem own_l18 {l1 l2 i1 i2 a0_ a1_ a2_ b0_ b1_ b2_ : Int32} (k0 : l1 = l2) (k1 : ¬ (l1 < (1 : Int32))) (k2 : a0_ = b0_) (k3 : ¬ (l1 < (2 : Int32))) (k4 : a1_ = b1_) (k5 : ¬ (l1 < (3 : Int32))) (k6 : a2_ = b2_) (k7 : i1 = i2) : own_R (l1 = l2 ∧ (l1 < (1 : Int32) ∨ a0_ = b0_) ∧ (l1 < (2 : Int32) ∨ a1_ = b1_) ∧ (l1 < (3 : Int32) ∨ a2_ = b2_) ∧ i1 = i2) (1 : Int32) := by unfold own_R; grind
theorem own_l19 {l1 l2 i1 i2 a0_ a1_ a2_ b0_ b1_ b2_ : Int32} (k0 : l1 = l2) (k1 : ¬ (l1 < (1 : Int32))) (k2 : a0_ = b0_) (k3 : ¬ (l1 < (2 : Int32))) (k4 : a1_ = b1_) (k5 : ¬ (l1 < (3 : Int32))) (k6 : a2_ = b2_) (k7 : ¬ (i1 = i2)) : own_R (l1 = l2 ∧ (l1 < (1 : Int32) ∨ a0_ = b0_) ∧ (l1 < (2 : Int32) ∨ a1_ = b1_) ∧ (l1 < (3 : Int32) ∨ a2_ = b2_) ∧ i1 = i2) (0 : Int32) := by unfold own_R; grind
theorem own_l20 {l1 l2 i1 i2 a0_ a1_ a2_ b0_ b1_ b2_ : Int32} (k0 : l1 = l2) (k1 : ¬ (l1 < (1 : Int32))) (k2 : a0_ = b0_) (k3 : ¬ (l1 < (2 : Int32))) (k4 : a1_ = b1_) (k5 : ¬ (l1 < (3 : Int32))) (k6 : ¬ (a2_ = b2_)) : own_R (l1 = l2 ∧ (l1 < (1 : Int32) ∨ a0_ = b0_) ∧ (l1 < (2 : Int32) ∨ a1_ = b1_) ∧ (l1 < (3 : Int32) ∨ a2_ = b2_) ∧ i1 = i2) (0 : Int32) := by unfold own_R; grind
theorem own_l21 {l1 l2 i1 i2 a0_ a1_ a2_ b0_ b1_ b2_ : Int32} (k0 : l1 = l2) (k1 : ¬ (l1 < (1 : Int32))) (k2 : a0_ = b0_) (k3 : ¬ (l1 < (2 : Int32))) (k4 : ¬ (a1_ = b1_)) : own_R (l1 = l2 ∧ (l1 < (1 : Int32) ∨ a0_ = b0_) ∧ (l1 < (2 : Int32) ∨ a1_ = b1_) ∧ (l1 < (3 : Int32) ∨ a2_ = b2_) ∧ i1 = i2) (0 : Int32) := by unfold own_R; grind
theorem own_l22 {l1 l2 i1 i2 a0_ a1_ a2_ b0_ b1_ b2_ : Int32} (k0 : l1 = l2) (k1 : ¬ (l1 < (1 : Int32))) (k2 : ¬ (a0_ = b0_)) : own_R (l1 = l2 ∧ (l1 < (1 : Int32) ∨ a0_ = b0_) ∧ (l1 < (2 : Int32) ∨ a1_ = b1_) ∧ (l1 < (3 : Int32) ∨ a2_ = b2_) ∧ i1 = i2) (0 : Int32) := by unfold own_R; grind
theorem own_l23 {l1 l2 i1 i2 a0_ a1_ a2_ b0_ b1_ b2_ : Int32} (k0 : ¬ (l1 = l2)) : own_R (l1 = l2 ∧ (l1 < (1 : Int32) ∨ a0_ = b0_) ∧ (l1 < (2 : Int32) ∨ a1_ = b1_) ∧ (l1 < (3 : Int32) ∨ a2_ = b2_) ∧ i1 = i2) (0 : Int32) := by unfold own_R; grind
def Q_cE4 (Z : State) (x b : Addr) (h0 : Heap) (n0 : Nat) : Option Value → Heap → List Loc → Prop := (fun v h L => v = none ∧ Fr n0 L ∧ Keep h0 h [x] ∧ LS Z h x [])
set_option maxRecDepth 65536 in
set_option maxHeartbeats 40000000 in
theorem cE4 (l : Launch) (Z : State) (a0 : Array Value) (hw : ∀ d ∈ tables_1, d.before a0 Z = true) (ws : List Jvm.Cond) (x b : Addr) (h0 : Heap) (n0 : Nat) (Z0 : n0 ≤ h0.size) (hEW : EW Z a0 consts_1) (E_x : Exa Z h0 x "java/lang/String") (F_v : Fld Z h0 x "java/lang/String" "value" "[B" .null) (F_c : Fld Z h0 x "java/lang/String" "coder" "B" (.int (0 : Int32))) (gx : n0 ≤ x) :
    ConW l (⟨"java/lang/String", "<init>", "([CIILjava/lang/Void;)V"⟩ : MethodName) jdk_42_method_149_code 6 none ws ({ frames := 1, cells := 4, slots := 8, locals := 12 } : Room) Z consts_1 #[(.ref x), (.ref b), (.int (0 : Int32)), (.int (0 : Int32)), .null] h0 (Q_cE4 Z x b h0 n0) 4 8 := by
  refine enterW (plainFor_of_name pn_0) ?_
  intro p e s m below meth c s₁ hnm hret hlk D0
  rw [ef_cE4 m x b]
  refine g_aloadN D0 1 d_jdk_42m149_0 rfl rfl rfl ?_
  refine g_initO D0 4 (hw _ w_15) (hw _ w_16) (hw _ w_17) rfl d_jdk_42m149_1 (by decide) (W := 0) (Nat.le_of_eq rfl) (by decide) rfl ?_
  intro T101 D101
  refine g_iloadN D101 5 d_jdk_42m149_4 rfl rfl ?_
  refine g_ifN D101 8 d_jdk_42m149_5 (by decide) rfl ?_
  refine g_aloadN D101 9 d_jdk_42m149_8 rfl rfl rfl ?_
  refine g_ldcS D101 11 hEW (hw _ w_18) (fun a ha => hw a (wsa a ha)) (by decide) [] 0 ⟨by decide, rfl⟩ ⟨by decide, by decide⟩ (by decide) (by decide) d_jdk_42m149_9 (by decide) (by decide) rfl ?_
  intro s102 T102 h102 la102 lt102 lk102 E102 X102 C102 V102 A102 HS102 SF102 D102
  have S102 := SF102 x E_x.lt (safe_null D101.wm.alike E_x F_v)
  refine g_getF D102 14 (hw _ w_24) Via.refl V102 d_jdk_42m149_11 rfl ?_
  intro T103 D103
  refine g_putF D103 17 (hw _ w_24) Via.refl (F_v.ext E102) (E_x.ext E102) (Or.inr ⟨(hw _ w_20), rfl, hnm⟩) (hw _ w_5) (ty := (.array .byte)) (by decide) rfl rfl (fun _ W => D103.iv.wr S102 W) d_jdk_42m149_14 rfl ?_
  intro T104 h104 W104 D104
  have N104 := Fr.snoc D104.st (Fr.nil n0) gx
  have F104 := (F_v.ext E102).same W104
  have S102b := D103.iv.safeWr S102 W104 S102
  refine g_aloadN D104 18 d_jdk_42m149_17 rfl rfl rfl ?_
  refine g_ldcS D104 20 hEW (hw _ w_18) (fun a ha => hw a (wsa a ha)) (by decide) [] 0 ⟨by decide, rfl⟩ ⟨by decide, by decide⟩ (by decide) (by decide) d_jdk_42m149_18 (by decide) (by decide) rfl ?_
  intro s105 T105 h105 la105 lt105 lk105 E105 X105 C105 V105 A105 HS105 SF105 D105
  have S105 := SF105 x ((E_x.ext E102).wr W104).lt S102b
  refine g_getF D105 23 (hw _ w_25) Via.refl C105 d_jdk_42m149_20 rfl ?_
  intro T106 D106
  refine g_putF D106 26 (hw _ w_25) Via.refl (((F_c.ext E102).other W104 (Or.inr (slot_ne (Or.inr (hw _ w_21)) (Or.inr (hw _ w_20)) (by decide) (t := .byte) (t' := (.array .byte)) (by decide) (by decide)))).ext E105) (((E_x.ext E102).wr W104).ext E105) (Or.inr ⟨(hw _ w_21), rfl, hnm⟩) (hw _ w_5) (ty := .byte) (by decide) rfl rfl (fun _ W => D106.iv.wr S105 W) d_jdk_42m149_23 rfl ?_
  intro T107 h107 W107 D107
  have N107 := Fr.snoc D107.st N104 gx
  have F107 := (((F_c.ext E102).other W104 (Or.inr (slot_ne (Or.inr (hw _ w_21)) (Or.inr (hw _ w_20)) (by decide) (t := .byte) (t' := (.array .byte)) (by decide) (by decide)))).ext E105).same W107
  exact r_Vw D107 hEW hret hlk d_jdk_42m149_26 ⟨rfl, N107, (((((Keep.refl _ [x]).ext E102).wr W104 (Or.inl (List.mem_of_getElem? (i := 0) rfl))).ext E105).wr W107 (Or.inl (List.mem_of_getElem? (i := 0) rfl))), lt102, lk102, ((((E_x.ext E102).wr W104).ext E105).wr W107), F107, ((F104.ext E105).other W107 (Or.inr (slot_ne (Or.inr (hw _ w_20)) (Or.inr (hw _ w_21)) (by decide) (t := (.array .byte)) (t' := .byte) (by decide) (by decide)))), (((A102.other W104 (Ne.symm (HS102 x S102).2)).ext E105).other W107 (Ne.symm (HS102 x S102).2)), b8_nil, by decide⟩ (by decide) (by decide)
def Q_cE1 (Z : State) (x b : Addr) (kb : ClassId) (h0 : Heap) (n0 : Nat) : Option Value → Heap → List Loc → Prop := (fun v h L => v = none ∧ Fr n0 L ∧ Keep h0 h [x] ∧ LS Z h x [])
set_option maxRecDepth 65536 in
set_option maxHeartbeats 40000000 in
theorem cE1 (l : Launch) (Z : State) (a0 : Array Value) (hw : ∀ d ∈ tables_1, d.before a0 Z = true) (ws : List Jvm.Cond) (x b : Addr) (kb : ClassId) (h0 : Heap) (n0 : Nat) (Z0 : n0 ≤ h0.size) (hEW : EW Z a0 consts_1) (E_x : Exa Z h0 x "java/lang/String") (F_v : Fld Z h0 x "java/lang/String" "value" "[B" .null) (F_c : Fld Z h0 x "java/lang/String" "coder" "B" (.int (0 : Int32))) (gx : n0 ≤ x) (V_b : Arv Z h0 b kb .char (0 : Int32) [] (.int (0 : Int32))) :
    ConW l (⟨"java/lang/String", "<init>", "([C)V"⟩ : MethodName) jdk_42_method_3_code 2 none ws ({ frames := 2, cells := 4, slots := 8, locals := 29 } : Room) Z consts_1 #[(.ref x), (.ref b)] h0 (Q_cE1 Z x b kb h0 n0) 4 8 := by
  refine enterW (plainFor_of_name pn_0) ?_
  intro p e s m below meth c s₁ hnm hret hlk D0
  rw [ef_cE1 m x b]
  refine g_aloadN D0 1 d_jdk_42m3_0 rfl rfl rfl ?_
  refine g_aloadN D0 2 d_jdk_42m3_1 rfl rfl rfl ?_
  refine g_iconst D0 3 (0 : Int32) d_jdk_42m3_2 rfl rfl ?_
  refine g_aloadN D0 4 d_jdk_42m3_3 rfl rfl rfl ?_
  refine g_alen D0 5 V_b d_jdk_42m3_4 rfl ?_
  refine g_aconst D0 6 d_jdk_42m3_5 rfl ?_
  refine g_callNW D0 9 hEW rfl (hw _ w_11) (hw _ w_12) (hw _ w_6) (hw _ w_14) (by decide) (cE4 l Z a0 hw [] x b h0 n0 Z0 hEW E_x F_v F_c gx) rfl [(.ref b), (.int (0 : Int32)), (.int (0 : Int32)), .null] rfl (lenOf pd_0 rfl) rfl 0 (Nat.le_of_eq rfl) (by decide) (by decide) (by decide) (by decide) d_jdk_42m3_6 rfl ?_
  intro v108 s108 T108 h108 L108 q108 SF108 D108
  obtain ⟨rfl, N1, K1, X1⟩ := q108
  rw [List.nil_append] at D108
  show Go p e below _ (T108.setTop (mkF m 9 #[.val (.ref x), .val (.ref b)] []))
  exact r_Vw D108 hEW hret hlk d_jdk_42m3_9 ⟨rfl, N1, K1, X1⟩ (by decide) (by decide)

def Q_cMk (Z : State) (n c0 c1 c2 zc : Int32) (h0 : Heap) (n0 : Nat) : Option Value → Heap → List Loc → Prop := (fun v h L => ∃ a, v = some (.ref a) ∧ Fr n0 L ∧ Ext h0 h ∧ LS Z h a (own_mk n c0 c1 c2))
set_option maxRecDepth 65536 in
set_option maxHeartbeats 40000000 in
theorem cMk (l : Launch) (Z : State) (a0 : Array Value) (hw : ∀ d ∈ tables_1, d.before a0 Z = true) (ws : List Jvm.Cond) (n c0 c1 c2 zc : Int32) (h0 : Heap) (n0 : Nat) (Z0 : n0 ≤ h0.size) (hEW : EW Z a0 consts_1) (OLD : Old Z n0 h0) (CS : Sta Z Z.heap "java/lang/String" "COMPACT_STRINGS" "Z" (.int zc)) (hzc : ¬ zc = 0) (b0 : B8 c0) (b1 : B8 c1) (b2 : B8 c2) :
    ConW l (⟨"com/example/ocotillo/ocotillo/core/FeedProblemEqualsPinLaw", "mk", "(ICCC)Ljava/lang/String;"⟩ : MethodName) method_2_code 4 (some (.object "java/lang/String")) ws ({ frames := 4, cells := 6, slots := 12, locals := 66 } : Room) Z consts_1 #[(.int n), (.int c0), (.int c1), (.int c2)] h0 (Q_cMk Z n c0 c1 c2 zc h0 n0) 6 12 := by
  refine enterW (plainFor_of_name pn_1) ?_
  intro p e s m below meth c s₁ hnm hret hlk D0
  rw [ef_cMk m n c0 c1 c2]
  refine g_iloadN D0 1 d_method_2_0 rfl rfl ?_
  by_cases z0 : n = (0 : Int32)
  · refine g_ifN D0 4 d_method_2_1 (teq z0).2 rfl ?_
    refine g_newO D0 7 (hw _ w_4) (hw _ w_5) (hw _ w_6) d_method_2_4 (by decide) (by decide) (fun _ E => D0.iv.ext E) rfl ?_
    intro T109 h109 a109 g109 E109 A109 N109 D109
    refine g_dup D109 8 d_method_2_7 rfl rfl ?_
    refine g_iconst D109 9 (0 : Int32) d_method_2_8 rfl rfl ?_
    refine g_newP D109 11 (aty := .char) (hw _ w_7) d_method_2_9 (by decide) (cap := 0) (by decide) (by decide) (by decide) (by decide) (fun _ E => D109.iv.ext E) rfl ?_
    intro T110 h110 a110 k110 g110 E110 V110 D110
    refine g_callNW D110 14 hEW rfl (hw _ w_8) (hw _ w_9) (hw _ w_6) (hw _ w_10) (by decide) (cE1 l Z a0 hw [] a109 a110 k110 h110 n0 (Nat.le_trans (Nat.le_trans Z0 E109.1) E110.1) hEW (A109.ext E110) ((N109 (Or.inr (hw _ w_20)) (ty := (.array .byte)) (by decide)).ext E110) ((N109 (Or.inr (hw _ w_21)) (ty := .byte) (by decide)).ext E110) (Nat.le_trans Z0 (Nat.le_of_eq g109.symm)) V110) rfl [(.ref a110)] rfl (lenOf pd_1 rfl) rfl 1 (Nat.le_of_eq rfl) (by decide) (by decide) (by decide) (by decide) d_method_2_11 rfl ?_
    intro v111 s111 T111 h111 L111 q111 SF111 D111
    obtain ⟨rfl, N111, K111, X111⟩ := q111
    have NF111 := Fr.app (Fr.nil n0) N111
    show Go p e below _ (T111.setTop (mkF m 14 #[.val (.int n), .val (.int c0), .val (.int c1), .val (.int c2)] [(.ref a109)]))
    exact r_Aw D111 hEW hret rfl rfl hlk d_method_2_14 ⟨a109, rfl, NF111, Keep.toExt ((((Keep.refl _ []).ext E109).ext E110).trans K111 (allS (Or.inr (Nat.le_trans (Nat.le_refl _) (Nat.le_of_eq g109.symm))) all0)), by rw [show own_mk n c0 c1 c2 = [] from by simp [own_mk, z0]]; exact X111⟩ (by decide) (by decide)
  · refine g_ifY D0 15 d_method_2_1 (feq z0).2 (by decide) (by decide) ?_
    refine g_iloadN D0 16 d_method_2_15 rfl rfl ?_
    refine g_iconst D0 17 (1 : Int32) d_method_2_16 rfl rfl ?_
    by_cases z1 : n = (1 : Int32)
    · refine g_icmpN D0 20 d_method_2_17 (teq z1).2 rfl ?_
      refine g_newO D0 23 (hw _ w_4) (hw _ w_5) (hw _ w_6) d_method_2_20 (by decide) (by decide) (fun _ E => D0.iv.ext E) rfl ?_
      intro T112 h112 a112 g112 E112 A112 N112 D112
      refine g_dup D112 24 d_method_2_23 rfl rfl ?_
      refine g_iconst D112 25 (1 : Int32) d_method_2_24 rfl rfl ?_
      refine g_newP D112 27 (aty := .char) (hw _ w_7) d_method_2_25 (by decide) (cap := 1) (by decide) (by decide) (by decide) (by decide) (fun _ E => D112.iv.ext E) rfl ?_
      intro T113 h113 a113 k113 g113 E113 V113 D113
      have V113' : Arv Z h113 a113 k113 .char (1 : Int32) [(.int (0 : Int32))] (.int (0 : Int32)) := V113.pad (pad_rep [] (.int (0 : Int32)) 1)
      refine g_dup D113 28 d_method_2_27 rfl rfl ?_
      refine g_iconst D113 29 (0 : Int32) d_method_2_28 rfl rfl ?_
      refine g_iloadN D113 30 d_method_2_29 rfl rfl ?_
      refine g_castore D113 31 V113' ⟨by decide, by decide⟩ 0 (by decide) (Nat.le_of_ble_eq_true rfl) (fun _ W => D113.iv.wr (Safe.arv D113.wm.alike V113' (by decide)) W) d_method_2_30 rfl ?_
      intro T114 h114 W114 V114 D114
      rw [nar_c b0] at V114
      replace V114 : Arv Z h114 a113 k113 .char (1 : Int32) [(.int c0)] (.int (0 : Int32)) := V114
      have N114 := Fr.snoc D114.st (Fr.nil n0) (Nat.le_trans (Nat.le_trans Z0 E112.1) (Nat.le_of_eq g113.symm))
      refine g_callN D114 34 rfl (hw _ w_8) (hw _ w_9) (hw _ w_10) (by decide) (StrChars.Road.backV (W := 1) D114.wm (fun d hd => hw d (wbv d hd)) (kI := 4) (hw _ w_5) (cs := [c0]) (bs := ([c0].map StrChars.lo8)) (n := 1) (n0 := n0) (Nat.le_trans Z0 (Nat.le_of_eq g112.symm)) (Nat.le_trans (Nat.le_trans (Nat.le_trans Z0 E112.1) E113.1) (Keep.of_wr W114).1) ((A112.ext E113).wr W114) (((N112 (Or.inr (hw _ w_20)) (ty := (.array .byte)) (by decide)).ext E113).other W114 (Or.inl (Nat.ne_of_lt (Nat.lt_of_lt_of_le A112.lt (Nat.le_of_eq g113.symm))))) (((N112 (Or.inr (hw _ w_21)) (ty := .byte) (by decide)).ext E113).other W114 (Or.inl (Nat.ne_of_lt (Nat.lt_of_lt_of_le A112.lt (Nat.le_of_eq g113.symm))))) V114 (CS.ext (((OLD.ext E112).ext E113).wr W114 (Nat.le_trans (Nat.le_trans Z0 E112.1) (Nat.le_of_eq g113.symm))).2) hzc rfl rfl (by decide) (by decide) (b8_cons b0 b8_nil) rfl (by decide) (by decide)) rfl [(.ref a113)] rfl (lenOf pd_1 rfl) rfl (Nat.le_of_eq rfl) (by decide) (by decide) (fun _ _ _ q => D114.iv.keep (sfS (safe_null D114.wm.alike ((A112.ext E113).wr W114) (((N112 (Or.inr (hw _ w_20)) (ty := (.array .byte)) (by decide)).ext E113).other W114 (Or.inl (Nat.ne_of_lt (Nat.lt_of_lt_of_le A112.lt (Nat.le_of_eq g113.symm)))))) sf0) q.2.2.1) d_method_2_31 rfl ?_
      intro v115 T115 h115 L115 q115 D115
      obtain ⟨rfl, N115, K115, A115, C115, t115, kb115, -, -, -, Vf115, Va115⟩ := q115
      have NF115 := Fr.app N114 N115
      have X115 : LS Z h115 a112 [c0] := ⟨t115, kb115, A115, C115, Vf115, Va115, (b8_cons b0 b8_nil), Nat.le_of_ble_eq_true rfl⟩
      show Go p e below _ (T115.setTop (mkF m 34 #[.val (.int n), .val (.int c0), .val (.int c1), .val (.int c2)] [(.ref a112)]))
      exact r_Aw D115 hEW hret rfl rfl hlk d_method_2_34 ⟨a112, rfl, NF115, Keep.toExt (((((Keep.refl _ []).ext E112).ext E113).wr W114 (Or.inr (Nat.le_trans (Nat.le_trans (Nat.le_refl _) E112.1) (Nat.le_of_eq g113.symm)))).trans K115 (allS (Or.inr (Nat.le_trans (Nat.le_refl _) (Nat.le_of_eq g112.symm))) all0)), by rw [show own_mk n c0 c1 c2 = [c0] from by simp [own_mk, z0, z1]]; exact X115⟩ (by decide) (by decide)
    · refine g_icmpY D0 35 d_method_2_17 (feq z1).2 (by decide) (by decide) ?_
      refine g_iloadN D0 36 d_method_2_35 rfl rfl ?_
      refine g_iconst D0 37 (2 : Int32) d_method_2_36 rfl rfl ?_
      by_cases z2 : n = (2 : Int32)
      · refine g_icmpN D0 40 d_method_2_37 (teq z2).2 rfl ?_
        refine g_newO D0 43 (hw _ w_4) (hw _ w_5) (hw _ w_6) d_method_2_40 (by decide) (by decide) (fun _ E => D0.iv.ext E) rfl ?_
        intro T116 h116 a116 g116 E116 A116 N116 D116
        refine g_dup D116 44 d_method_2_43 rfl rfl ?_
        refine g_iconst D116 45 (2 : Int32) d_method_2_44 rfl rfl ?_
        refine g_newP D116 47 (aty := .char) (hw _ w_7) d_method_2_45 (by decide) (cap := 2) (by decide) (by decide) (by decide) (by decide) (fun _ E => D116.iv.ext E) rfl ?_
        intro T117 h117 a117 k117 g117 E117 V117 D117
        have V117' : Arv Z h117 a117 k117 .char (2 : Int32) [(.int (0 : Int32)), (.int (0 : Int32))] (.int (0 : Int32)) := V117.pad (pad_rep [] (.int (0 : Int32)) 2)
        refine g_dup D117 48 d_method_2_47 rfl rfl ?_
        refine g_iconst D117 49 (0 : Int32) d_method_2_48 rfl rfl ?_
        refine g_iloadN D117 50 d_method_2_49 rfl rfl ?_
        refine g_castore D117 51 V117' ⟨by decide, by decide⟩ 0 (by decide) (Nat.le_of_ble_eq_true rfl) (fun _ W => D117.iv.wr (Safe.arv D117.wm.alike V117' (by decide)) W) d_method_2_50 rfl ?_
        intro T118 h118 W118 V118 D118
        rw [nar_c b0] at V118
        replace V118 : Arv Z h118 a117 k117 .char (2 : Int32) [(.int c0), (.int (0 : Int32))] (.int (0 : Int32)) := V118
        have N118 := Fr.snoc D118.st (Fr.nil n0) (Nat.le_trans (Nat.le_trans Z0 E116.1) (Nat.le_of_eq g117.symm))
        refine g_dup D118 52 d_method_2_51 rfl rfl ?_
        refine g_iconst D118 53 (1 : Int32) d_method_2_52 rfl rfl ?_
        refine g_iloadN D118 54 d_method_2_53 rfl rfl ?_
        refine g_castore D118 55 V118 ⟨by decide, by decide⟩ 1 (by decide) (Nat.le_of_ble_eq_true rfl) (fun _ W => D118.iv.wr (Safe.arv D118.wm.alike V118 (by decide)) W) d_method_2_54 rfl ?_
        intro T119 h119 W119 V119 D119
        rw [nar_c b1] at V119
        replace V119 : Arv Z h119 a117 k117 .char (2 : Int32) [(.int c0), (.int c1)] (.int (0 : Int32)) := V119
        have N119 := Fr.snoc D119.st N118 (Nat.le_trans (Nat.le_trans Z0 E116.1) (Nat.le_of_eq g117.symm))
        refine g_callN D119 58 rfl (hw _ w_8) (hw _ w_9) (hw _ w_10) (by decide) (StrChars.Road.backV (W := 1) D119.wm (fun d hd => hw d (wbv d hd)) (kI := 4) (hw _ w_5) (cs := [c0, c1]) (bs := ([c0, c1].map StrChars.lo8)) (n := 2) (n0 := n0) (Nat.le_trans Z0 (Nat.le_of_eq g116.symm)) (Nat.le_trans (Nat.le_trans (Nat.le_trans (Nat.le_trans Z0 E116.1) E117.1) (Keep.of_wr W118).1) (Keep.of_wr W119).1) (((A116.ext E117).wr W118).wr W119) ((((N116 (Or.inr (hw _ w_20)) (ty := (.array .byte)) (by decide)).ext E117).other W118 (Or.inl (Nat.ne_of_lt (Nat.lt_of_lt_of_le A116.lt (Nat.le_of_eq g117.symm))))).other W119 (Or.inl (Nat.ne_of_lt (Nat.lt_of_lt_of_le A116.lt (Nat.le_of_eq g117.symm))))) ((((N116 (Or.inr (hw _ w_21)) (ty := .byte) (by decide)).ext E117).other W118 (Or.inl (Nat.ne_of_lt (Nat.lt_of_lt_of_le A116.lt (Nat.le_of_eq g117.symm))))).other W119 (Or.inl (Nat.ne_of_lt (Nat.lt_of_lt_of_le A116.lt (Nat.le_of_eq g117.symm))))) V119 (CS.ext ((((OLD.ext E116).ext E117).wr W118 (Nat.le_trans (Nat.le_trans Z0 E116.1) (Nat.le_of_eq g117.symm))).wr W119 (Nat.le_trans (Nat.le_trans Z0 E116.1) (Nat.le_of_eq g117.symm))).2) hzc rfl rfl (by decide) (by decide) (b8_cons b0 (b8_cons b1 b8_nil)) rfl (by decide) (by decide)) rfl [(.ref a117)] rfl (lenOf pd_1 rfl) rfl (Nat.le_of_eq rfl) (by decide) (by decide) (fun _ _ _ q => D119.iv.keep (sfS (safe_null D119.wm.alike (((A116.ext E117).wr W118).wr W119) ((((N116 (Or.inr (hw _ w_20)) (ty := (.array .byte)) (by decide)).ext E117).other W118 (Or.inl (Nat.ne_of_lt (Nat.lt_of_lt_of_le A116.lt (Nat.le_of_eq g117.symm))))).other W119 (Or.inl (Nat.ne_of_lt (Nat.lt_of_lt_of_le A116.lt (Nat.le_of_eq g117.symm)))))) sf0) q.2.2.1) d_method_2_55 rfl ?_
        intro v120 T120 h120 L120 q120 D120
        obtain ⟨rfl, N120, K120, A120, C120, t120, kb120, -, -, -, Vf120, Va120⟩ := q120
        have NF120 := Fr.app N119 N120
        have X120 : LS Z h120 a116 [c0, c1] := ⟨t120, kb120, A120, C120, Vf120, Va120, (b8_cons b0 (b8_cons b1 b8_nil)), Nat.le_of_ble_eq_true rfl⟩
        show Go p e below _ (T120.setTop (mkF m 58 #[.val (.int n), .val (.int c0), .val (.int c1), .val (.int c2)] [(.ref a116)]))
        exact r_Aw D120 hEW hret rfl rfl hlk d_method_2_58 ⟨a116, rfl, NF120, Keep.toExt ((((((Keep.refl _ []).ext E116).ext E117).wr W118 (Or.inr (Nat.le_trans (Nat.le_trans (Nat.le_refl _) E116.1) (Nat.le_of_eq g117.symm)))).wr W119 (Or.inr (Nat.le_trans (Nat.le_trans (Nat.le_refl _) E116.1) (Nat.le_of_eq g117.symm)))).trans K120 (allS (Or.inr (Nat.le_trans (Nat.le_refl _) (Nat.le_of_eq g116.symm))) all0)), by rw [show own_mk n c0 c1 c2 = [c0, c1] from by simp [own_mk, z0, z1, z2]]; exact X120⟩ (by decide) (by decide)
      · refine g_icmpY D0 59 d_method_2_37 (feq z2).2 (by decide) (by decide) ?_
        refine g_newO D0 62 (hw _ w_4) (hw _ w_5) (hw _ w_6) d_method_2_59 (by decide) (by decide) (fun _ E => D0.iv.ext E) rfl ?_
        intro T121 h121 a121 g121 E121 A121 N121 D121
        refine g_dup D121 63 d_method_2_62 rfl rfl ?_
        refine g_iconst D121 64 (3 : Int32) d_method_2_63 rfl rfl ?_
        refine g_newP D121 66 (aty := .char) (hw _ w_7) d_method_2_64 (by decide) (cap := 3) (by decide) (by decide) (by decide) (by decide) (fun _ E => D121.iv.ext E) rfl ?_
        intro T122 h122 a122 k122 g122 E122 V122 D122
        have V122' : Arv Z h122 a122 k122 .char (3 : Int32) [(.int (0 : Int32)), (.int (0 : Int32)), (.int (0 : Int32))] (.int (0 : Int32)) := V122.pad (pad_rep [] (.int (0 : Int32)) 3)
        refine g_dup D122 67 d_method_2_66 rfl rfl ?_
        refine g_iconst D122 68 (0 : Int32) d_method_2_67 rfl rfl ?_
        refine g_iloadN D122 69 d_method_2_68 rfl rfl ?_
        refine g_castore D122 70 V122' ⟨by decide, by decide⟩ 0 (by decide) (Nat.le_of_ble_eq_true rfl) (fun _ W => D122.iv.wr (Safe.arv D122.wm.alike V122' (by decide)) W) d_method_2_69 rfl ?_
        intro T123 h123 W123 V123 D123
        rw [nar_c b0] at V123
        replace V123 : Arv Z h123 a122 k122 .char (3 : Int32) [(.int c0), (.int (0 : Int32)), (.int (0 : Int32))] (.int (0 : Int32)) := V123
        have N123 := Fr.snoc D123.st (Fr.nil n0) (Nat.le_trans (Nat.le_trans Z0 E121.1) (Nat.le_of_eq g122.symm))
        refine g_dup D123 71 d_method_2_70 rfl rfl ?_
        refine g_iconst D123 72 (1 : Int32) d_method_2_71 rfl rfl ?_
        refine g_iloadN D123 73 d_method_2_72 rfl rfl ?_
        refine g_castore D123 74 V123 ⟨by decide, by decide⟩ 1 (by decide) (Nat.le_of_ble_eq_true rfl) (fun _ W => D123.iv.wr (Safe.arv D123.wm.alike V123 (by decide)) W) d_method_2_73 rfl ?_
        intro T124 h124 W124 V124 D124
        rw [nar_c b1] at V124
        replace V124 : Arv Z h124 a122 k122 .char (3 : Int32) [(.int c0), (.int c1), (.int (0 : Int32))] (.int (0 : Int32)) := V124
        have N124 := Fr.snoc D124.st N123 (Nat.le_trans (Nat.le_trans Z0 E121.1) (Nat.le_of_eq g122.symm))
        refine g_dup D124 75 d_method_2_74 rfl rfl ?_
        refine g_iconst D124 76 (2 : Int32) d_method_2_75 rfl rfl ?_
        refine g_iloadN D124 77 d_method_2_76 rfl rfl ?_
        refine g_castore D124 78 V124 ⟨by decide, by decide⟩ 2 (by decide) (Nat.le_of_ble_eq_true rfl) (fun _ W => D124.iv.wr (Safe.arv D124.wm.alike V124 (by decide)) W) d_method_2_77 rfl ?_
        intro T125 h125 W125 V125 D125
        rw [nar_c b2] at V125
        replace V125 : Arv Z h125 a122 k122 .char (3 : Int32) [(.int c0), (.int c1), (.int c2)] (.int (0 : Int32)) := V125
        have N125 := Fr.snoc D125.st N124 (Nat.le_trans (Nat.le_trans Z0 E121.1) (Nat.le_of_eq g122.symm))
        refine g_callN D125 81 rfl (hw _ w_8) (hw _ w_9) (hw _ w_10) (by decide) (StrChars.Road.backV (W := 1) D125.wm (fun d hd => hw d (wbv d hd)) (kI := 4) (hw _ w_5) (cs := [c0, c1, c2]) (bs := ([c0, c1, c2].map StrChars.lo8)) (n := 3) (n0 := n0) (Nat.le_trans Z0 (Nat.le_of_eq g121.symm)) (Nat.le_trans (Nat.le_trans (Nat.le_trans (Nat.le_trans (Nat.le_trans Z0 E121.1) E122.1) (Keep.of_wr W123).1) (Keep.of_wr W124).1) (Keep.of_wr W125).1) ((((A121.ext E122).wr W123).wr W124).wr W125) (((((N121 (Or.inr (hw _ w_20)) (ty := (.array .byte)) (by decide)).ext E122).other W123 (Or.inl (Nat.ne_of_lt (Nat.lt_of_lt_of_le A121.lt (Nat.le_of_eq g122.symm))))).other W124 (Or.inl (Nat.ne_of_lt (Nat.lt_of_lt_of_le A121.lt (Nat.le_of_eq g122.symm))))).other W125 (Or.inl (Nat.ne_of_lt (Nat.lt_of_lt_of_le A121.lt (Nat.le_of_eq g122.symm))))) (((((N121 (Or.inr (hw _ w_21)) (ty := .byte) (by decide)).ext E122).other W123 (Or.inl (Nat.ne_of_lt (Nat.lt_of_lt_of_le A121.lt (Nat.le_of_eq g122.symm))))).other W124 (Or.inl (Nat.ne_of_lt (Nat.lt_of_lt_of_le A121.lt (Nat.le_of_eq g122.symm))))).other W125 (Or.inl (Nat.ne_of_lt (Nat.lt_of_lt_of_le A121.lt (Nat.le_of_eq g122.symm))))) V125 (CS.ext (((((OLD.ext E121).ext E122).wr W123 (Nat.le_trans (Nat.le_trans Z0 E121.1) (Nat.le_of_eq g122.symm))).wr W124 (Nat.le_trans (Nat.le_trans Z0 E121.1) (Nat.le_of_eq g122.symm))).wr W125 (Nat.le_trans (Nat.le_trans Z0 E121.1) (Nat.le_of_eq g122.symm))).2) hzc rfl rfl (by decide) (by decide) (b8_cons b0 (b8_cons b1 (b8_cons b2 b8_nil))) rfl (by decide) (by decide)) rfl [(.ref a122)] rfl (lenOf pd_1 rfl) rfl (Nat.le_of_eq rfl) (by decide) (by decide) (fun _ _ _ q => D125.iv.keep (sfS (safe_null D125.wm.alike ((((A121.ext E122).wr W123).wr W124).wr W125) (((((N121 (Or.inr (hw _ w_20)) (ty := (.array .byte)) (by decide)).ext E122).other W123 (Or.inl (Nat.ne_of_lt (Nat.lt_of_lt_of_le A121.lt (Nat.le_of_eq g122.symm))))).other W124 (Or.inl (Nat.ne_of_lt (Nat.lt_of_lt_of_le A121.lt (Nat.le_of_eq g122.symm))))).other W125 (Or.inl (Nat.ne_of_lt (Nat.lt_of_lt_of_le A121.lt (Nat.le_of_eq g122.symm)))))) sf0) q.2.2.1) d_method_2_78 rfl ?_
        intro v126 T126 h126 L126 q126 D126
        obtain ⟨rfl, N126, K126, A126, C126, t126, kb126, -, -, -, Vf126, Va126⟩ := q126
        have NF126 := Fr.app N125 N126
        have X126 : LS Z h126 a121 [c0, c1, c2] := ⟨t126, kb126, A126, C126, Vf126, Va126, (b8_cons b0 (b8_cons b1 (b8_cons b2 b8_nil))), Nat.le_of_ble_eq_true rfl⟩
        show Go p e below _ (T126.setTop (mkF m 81 #[.val (.int n), .val (.int c0), .val (.int c1), .val (.int c2)] [(.ref a121)]))
        exact r_Aw D126 hEW hret rfl rfl hlk d_method_2_81 ⟨a121, rfl, NF126, Keep.toExt (((((((Keep.refl _ []).ext E121).ext E122).wr W123 (Or.inr (Nat.le_trans (Nat.le_trans (Nat.le_refl _) E121.1) (Nat.le_of_eq g122.symm)))).wr W124 (Or.inr (Nat.le_trans (Nat.le_trans (Nat.le_refl _) E121.1) (Nat.le_of_eq g122.symm)))).wr W125 (Or.inr (Nat.le_trans (Nat.le_trans (Nat.le_refl _) E121.1) (Nat.le_of_eq g122.symm)))).trans K126 (allS (Or.inr (Nat.le_trans (Nat.le_refl _) (Nat.le_of_eq g121.symm))) all0)), by rw [show own_mk n c0 c1 c2 = [c0, c1, c2] from by simp [own_mk, z0, z1, z2]]; exact X126⟩ (by decide) (by decide)

set_option maxRecDepth 65536 in
set_option maxHeartbeats 40000000 in
theorem cCd (l : Launch) (Z : State) (a0 : Array Value) (hw : ∀ d ∈ tables_1, d.before a0 Z = true) (ws : List Jvm.Cond) (G : Nat → Addr) (i : Int32) (h0 : Heap) (n0 : Nat) (Z0 : n0 ≤ h0.size) (OLD : Old Z n0 h0) (S0 : Sta Z Z.heap "com/example/ocotillo/ocotillo/core/FeedProblem$Code" "NO_REQUIREMENT" "Lcom/example/ocotillo/ocotillo/core/FeedProblem$Code;" (.ref (G 0))) (S1 : Sta Z Z.heap "com/example/ocotillo/ocotillo/core/FeedProblem$Code" "SEVERAL_REQUIREMENTS" "Lcom/example/ocotillo/ocotillo/core/FeedProblem$Code;" (.ref (G 1))) (S2 : Sta Z Z.heap "com/example/ocotillo/ocotillo/core/FeedProblem$Code" "NO_CATEGORY" "Lcom/example/ocotillo/ocotillo/core/FeedProblem$Code;" (.ref (G 2))) (S3 : Sta Z Z.heap "com/example/ocotillo/ocotillo/core/FeedProblem$Code" "UNKNOWN_CATEGORY" "Lcom/example/ocotillo/ocotillo/core/FeedProblem$Code;" (.ref (G 3))) (S4 : Sta Z Z.heap "com/example/ocotillo/ocotillo/core/FeedProblem$Code" "NO_TIME_ZONE" "Lcom/example/ocotillo/ocotillo/core/FeedProblem$Code;" (.ref (G 4))) (S5 : Sta Z Z.heap "com/example/ocotillo/ocotillo/core/FeedProblem$Code" "BAD_DATE" "Lcom/example/ocotillo/ocotillo/core/FeedProblem$Code;" (.ref (G 5))) (S6 : Sta Z Z.heap "com/example/ocotillo/ocotillo/core/FeedProblem$Code" "ENDS_BEFORE_STARTS" "Lcom/example/ocotillo/ocotillo/core/FeedProblem$Code;" (.ref (G 6))) (S7 : Sta Z Z.heap "com/example/ocotillo/ocotillo/core/FeedProblem$Code" "UNKNOWN_REGION" "Lcom/example/ocotillo/ocotillo/core/FeedProblem$Code;" (.ref (G 7))) (S8 : Sta Z Z.heap "com/example/ocotillo/ocotillo/core/FeedProblem$Code" "UNKNOWN_SUBSCRIPTION" "Lcom/example/ocotillo/ocotillo/core/FeedProblem$Code;" (.ref (G 8))) (S9 : Sta Z Z.heap "com/example/ocotillo/ocotillo/core/FeedProblem$Code" "NO_IDENTIFIER" "Lcom/example/ocotillo/ocotillo/core/FeedProblem$Code;" (.ref (G 9))) (S10 : Sta Z Z.heap "com/example/ocotillo/ocotillo/core/FeedProblem$Code" "SUBSCRIPTION_WITHOUT_PACKAGE" "Lcom/example/ocotillo/ocotillo/core/FeedProblem$Code;" (.ref (G 10)))  :
    Con l (⟨"com/example/ocotillo/ocotillo/core/FeedProblemEqualsPinLaw", "code", "(I)Lcom/example/ocotillo/ocotillo/core/FeedProblem$Code;"⟩ : MethodName) method_3_code 1 (some (.object "com/example/ocotillo/ocotillo/core/FeedProblem$Code")) ws ({ frames := 0, cells := 0, slots := 0, locals := 0 } : Room) Z #[(.int i)] h0 (fun v h L => v = some (.ref (own_cd G i)) ∧ L = [] ∧ h = h0) 0 0 := by
  refine enter (plainFor_of_name pn_1) ?_
  intro p e s m below meth c s₁ hnm hret hlk D0
  rw [ef_cCd m i]
  refine g_iloadN D0 1 d_method_3_0 rfl rfl ?_
  by_cases z0 : i = (0 : Int32)
  · refine g_ifN D0 4 d_method_3_1 (teq z0).2 rfl ?_
    refine g_getS D0 7 (hw _ w_65) Via.refl (S0.ext OLD.2) d_method_3_4 rfl ?_
    intro T127 D127
    exact r_A D127 hret rfl rfl hlk d_method_3_7 ⟨by simp [own_cd, z0], rfl, rfl⟩ (by decide) (by decide)
  · refine g_ifY D0 8 d_method_3_1 (feq z0).2 (by decide) (by decide) ?_
    refine g_iloadN D0 9 d_method_3_8 rfl rfl ?_
    refine g_iconst D0 10 (1 : Int32) d_method_3_9 rfl rfl ?_
    by_cases z1 : i = (1 : Int32)
    · refine g_icmpN D0 13 d_method_3_10 (teq z1).2 rfl ?_
      refine g_getS D0 16 (hw _ w_43) Via.refl (S1.ext OLD.2) d_method_3_13 rfl ?_
      intro T128 D128
      exact r_A D128 hret rfl rfl hlk d_method_3_16 ⟨by simp [own_cd, z0, z1], rfl, rfl⟩ (by decide) (by decide)
    · refine g_icmpY D0 17 d_method_3_10 (feq z1).2 (by decide) (by decide) ?_
      refine g_iloadN D0 18 d_method_3_17 rfl rfl ?_
      refine g_iconst D0 19 (2 : Int32) d_method_3_18 rfl rfl ?_
      by_cases z2 : i = (2 : Int32)
      · refine g_icmpN D0 22 d_method_3_19 (teq z2).2 rfl ?_
        refine g_getS D0 25 (hw _ w_32) Via.refl (S2.ext OLD.2) d_method_3_22 rfl ?_
        intro T129 D129
        exact r_A D129 hret rfl rfl hlk d_method_3_25 ⟨by simp [own_cd, z0, z1, z2], rfl, rfl⟩ (by decide) (by decide)
      · refine g_icmpY D0 26 d_method_3_19 (feq z2).2 (by decide) (by decide) ?_
        refine g_iloadN D0 27 d_method_3_26 rfl rfl ?_
        refine g_iconst D0 28 (3 : Int32) d_method_3_27 rfl rfl ?_
        by_cases z3 : i = (3 : Int32)
        · refine g_icmpN D0 31 d_method_3_28 (teq z3).2 rfl ?_
          refine g_getS D0 34 (hw _ w_83) Via.refl (S3.ext OLD.2) d_method_3_31 rfl ?_
          intro T130 D130
          exact r_A D130 hret rfl rfl hlk d_method_3_34 ⟨by simp [own_cd, z0, z1, z2, z3], rfl, rfl⟩ (by decide) (by decide)
        · refine g_icmpY D0 35 d_method_3_28 (feq z3).2 (by decide) (by decide) ?_
          refine g_iloadN D0 36 d_method_3_35 rfl rfl ?_
          refine g_iconst D0 37 (4 : Int32) d_method_3_36 rfl rfl ?_
          by_cases z4 : i = (4 : Int32)
          · refine g_icmpN D0 40 d_method_3_37 (teq z4).2 rfl ?_
            refine g_getS D0 43 (hw _ w_79) Via.refl (S4.ext OLD.2) d_method_3_40 rfl ?_
            intro T131 D131
            exact r_A D131 hret rfl rfl hlk d_method_3_43 ⟨by simp [own_cd, z0, z1, z2, z3, z4], rfl, rfl⟩ (by decide) (by decide)
          · refine g_icmpY D0 44 d_method_3_37 (feq z4).2 (by decide) (by decide) ?_
            refine g_iloadN D0 45 d_method_3_44 rfl rfl ?_
            refine g_iconst D0 46 (5 : Int32) d_method_3_45 rfl rfl ?_
            by_cases z5 : i = (5 : Int32)
            · refine g_icmpN D0 49 d_method_3_46 (teq z5).2 rfl ?_
              refine g_getS D0 52 (hw _ w_89) Via.refl (S5.ext OLD.2) d_method_3_49 rfl ?_
              intro T132 D132
              exact r_A D132 hret rfl rfl hlk d_method_3_52 ⟨by simp [own_cd, z0, z1, z2, z3, z4, z5], rfl, rfl⟩ (by decide) (by decide)
            · refine g_icmpY D0 53 d_method_3_46 (feq z5).2 (by decide) (by decide) ?_
              refine g_iloadN D0 54 d_method_3_53 rfl rfl ?_
              refine g_bipush D0 56 (6 : Int32) d_method_3_54 rfl rfl ?_
              by_cases z6 : i = (6 : Int32)
              · refine g_icmpN D0 59 d_method_3_56 (teq z6).2 rfl ?_
                refine g_getS D0 62 (hw _ w_91) Via.refl (S6.ext OLD.2) d_method_3_59 rfl ?_
                intro T133 D133
                exact r_A D133 hret rfl rfl hlk d_method_3_62 ⟨by simp [own_cd, z0, z1, z2, z3, z4, z5, z6], rfl, rfl⟩ (by decide) (by decide)
              · refine g_icmpY D0 63 d_method_3_56 (feq z6).2 (by decide) (by decide) ?_
                refine g_iloadN D0 64 d_method_3_63 rfl rfl ?_
                refine g_bipush D0 66 (7 : Int32) d_method_3_64 rfl rfl ?_
                by_cases z7 : i = (7 : Int32)
                · refine g_icmpN D0 69 d_method_3_66 (teq z7).2 rfl ?_
                  refine g_getS D0 72 (hw _ w_85) Via.refl (S7.ext OLD.2) d_method_3_69 rfl ?_
                  intro T134 D134
                  exact r_A D134 hret rfl rfl hlk d_method_3_72 ⟨by simp [own_cd, z0, z1, z2, z3, z4, z5, z6, z7], rfl, rfl⟩ (by decide) (by decide)
                · refine g_icmpY D0 73 d_method_3_66 (feq z7).2 (by decide) (by decide) ?_
                  refine g_iloadN D0 74 d_method_3_73 rfl rfl ?_
                  refine g_bipush D0 76 (8 : Int32) d_method_3_74 rfl rfl ?_
                  by_cases z8 : i = (8 : Int32)
                  · refine g_icmpN D0 79 d_method_3_76 (teq z8).2 rfl ?_
                    refine g_getS D0 82 (hw _ w_81) Via.refl (S8.ext OLD.2) d_method_3_79 rfl ?_
                    intro T135 D135
                    exact r_A D135 hret rfl rfl hlk d_method_3_82 ⟨by simp [own_cd, z0, z1, z2, z3, z4, z5, z6, z7, z8], rfl, rfl⟩ (by decide) (by decide)
                  · refine g_icmpY D0 83 d_method_3_76 (feq z8).2 (by decide) (by decide) ?_
                    refine g_iloadN D0 84 d_method_3_83 rfl rfl ?_
                    refine g_bipush D0 86 (9 : Int32) d_method_3_84 rfl rfl ?_
                    by_cases z9 : i = (9 : Int32)
                    · refine g_icmpN D0 89 d_method_3_86 (teq z9).2 rfl ?_
                      refine g_getS D0 92 (hw _ w_87) Via.refl (S9.ext OLD.2) d_method_3_89 rfl ?_
                      intro T136 D136
                      exact r_A D136 hret rfl rfl hlk d_method_3_92 ⟨by simp [own_cd, z0, z1, z2, z3, z4, z5, z6, z7, z8, z9], rfl, rfl⟩ (by decide) (by decide)
                    · refine g_icmpY D0 93 d_method_3_86 (feq z9).2 (by decide) (by decide) ?_
                      refine g_getS D0 96 (hw _ w_63) Via.refl (S10.ext OLD.2) d_method_3_93 rfl ?_
                      intro T137 D137
                      exact r_A D137 hret rfl rfl hlk d_method_3_96 ⟨by simp [own_cd, z0, z1, z2, z3, z4, z5, z6, z7, z8, z9], rfl, rfl⟩ (by decide) (by decide)

def Q_cFI (Z : State) (b t k : Addr) (h0 : Heap) (n0 : Nat) : Option Value → Heap → List Loc → Prop := (fun v h L => v = none ∧ Fr n0 L ∧ Keep h0 h [b] ∧ Exa Z h b "com/example/ocotillo/ocotillo/core/FeedProblem" ∧ Fld Z h b "com/example/ocotillo/ocotillo/core/FeedProblem" "title" "Ljava/lang/String;" (.ref t) ∧ Fld Z h b "com/example/ocotillo/ocotillo/core/FeedProblem" "code" "Lcom/example/ocotillo/ocotillo/core/FeedProblem$Code;" (.ref k))
set_option maxRecDepth 65536 in
set_option maxHeartbeats 40000000 in
theorem cFI (l : Launch) (Z : State) (a0 : Array Value) (hw : ∀ d ∈ tables_1, d.before a0 Z = true) (ws : List Jvm.Cond) (b t k : Addr) (h0 : Heap) (n0 : Nat) (Z0 : n0 ≤ h0.size) (E_b : Exa Z h0 b "com/example/ocotillo/ocotillo/core/FeedProblem") (F1 : Fld Z h0 b "com/example/ocotillo/ocotillo/core/FeedProblem" "title" "Ljava/lang/String;" .null) (F2 : Fld Z h0 b "com/example/ocotillo/ocotillo/core/FeedProblem" "code" "Lcom/example/ocotillo/ocotillo/core/FeedProblem$Code;" .null) (gb : n0 ≤ b) :
    Con l (⟨"com/example/ocotillo/ocotillo/core/FeedProblem", "<init>", "(Ljava/lang/String;Lcom/example/ocotillo/ocotillo/core/FeedProblem$Code;)V"⟩ : MethodName) prog_1_method_1_code 3 none ws ({ frames := 1, cells := 0, slots := 0, locals := 12 } : Room) Z #[(.ref b), (.ref t), (.ref k)] h0 (Q_cFI Z b t k h0 n0) 0 0 := by
  refine enter (plainFor_of_name pn_2) ?_
  intro p e s m below meth c s₁ hnm hret hlk D0
  rw [ef_cFI m b t k]
  refine g_aloadN D0 1 d_prog_1m1_0 rfl rfl rfl ?_
  refine g_initO D0 4 (hw _ w_38) (hw _ w_16) (hw _ w_17) rfl d_prog_1m1_1 (by decide) (W := 0) (Nat.le_of_eq rfl) (by decide) rfl ?_
  intro T138 D138
  refine g_aloadN D138 5 d_prog_1m1_4 rfl rfl rfl ?_
  refine g_aloadN D138 6 d_prog_1m1_5 rfl rfl rfl ?_
  refine g_putF D138 9 (hw _ w_39) Via.refl F1 E_b (Or.inr ⟨(hw _ w_40), rfl, hnm⟩) (hw _ w_27) (ty := (.object "java/lang/String")) (by decide) rfl rfl (fun _ _ => trivial) d_prog_1m1_6 rfl ?_
  intro T139 h139 W139 D139
  have N139 := Fr.snoc D139.st (Fr.nil n0) gb
  have F139 := F1.same W139
  refine g_aloadN D139 10 d_prog_1m1_9 rfl rfl rfl ?_
  refine g_aloadN D139 11 d_prog_1m1_10 rfl rfl rfl ?_
  refine g_putF D139 14 (hw _ w_41) Via.refl (F2.other W139 (Or.inr (slot_ne (Or.inr (hw _ w_42)) (Or.inr (hw _ w_40)) (by decide) (t := (.object "com/example/ocotillo/ocotillo/core/FeedProblem$Code")) (t' := (.object "java/lang/String")) (by decide) (by decide)))) (E_b.wr W139) (Or.inr ⟨(hw _ w_42), rfl, hnm⟩) (hw _ w_27) (ty := (.object "com/example/ocotillo/ocotillo/core/FeedProblem$Code")) (by decide) rfl rfl (fun _ _ => trivial) d_prog_1m1_11 rfl ?_
  intro T140 h140 W140 D140
  have N140 := Fr.snoc D140.st N139 gb
  have F140 := (F2.other W139 (Or.inr (slot_ne (Or.inr (hw _ w_42)) (Or.inr (hw _ w_40)) (by decide) (t := (.object "com/example/ocotillo/ocotillo/core/FeedProblem$Code")) (t' := (.object "java/lang/String")) (by decide) (by decide)))).same W140
  exact r_V D140 hret hlk d_prog_1m1_14 ⟨rfl, N140, (((Keep.refl _ [b]).wr W139 (Or.inl (List.mem_of_getElem? (i := 0) rfl))).wr W140 (Or.inl (List.mem_of_getElem? (i := 0) rfl))), ((E_b.wr W139).wr W140), (F139.other W140 (Or.inr (slot_ne (Or.inr (hw _ w_40)) (Or.inr (hw _ w_42)) (by decide) (t := (.object "java/lang/String")) (t' := (.object "com/example/ocotillo/ocotillo/core/FeedProblem$Code")) (by decide) (by decide)))), F140⟩ (by decide) (by decide)

set_option maxRecDepth 65536 in
set_option maxHeartbeats 40000000 in
theorem cE_0 (l : Launch) (Z : State) (a0 : Array Value) (hw : ∀ d ∈ tables_1, d.before a0 Z = true) (ws : List Jvm.Cond) (b : Addr) (h0 : Heap) (n0 : Nat) (Z0 : n0 ≤ h0.size)  :
    Con l (⟨"com/example/ocotillo/ocotillo/core/FeedProblem", "equals", "(Ljava/lang/Object;)Z"⟩ : MethodName) prog_1_method_4_code 2 (some .boolean) ws ({ frames := 0, cells := 0, slots := 0, locals := 0 } : Room) Z #[(.ref b), .null] h0 (fun v h L => v = some (.int (0 : Int32)) ∧ L = [] ∧ h = h0) 0 0 := by
  refine enter (plainFor_of_name pn_2) ?_
  intro p e s m below meth c s₁ hnm hret hlk D0
  rw [ef_cE_0 m b]
  refine g_aloadN D0 1 d_prog_1m4_0 rfl rfl rfl ?_
  refine g_instNull D0 4 d_prog_1m4_1 rfl ?_
  refine g_ifY D0 42 d_prog_1m4_4 (by decide) (by decide) (by decide) ?_
  refine g_iconst D0 43 (0 : Int32) d_prog_1m4_42 rfl rfl ?_
  exact r_N D0 hret (by simp) hlk d_prog_1m4_43 ⟨rfl, rfl, rfl⟩ (by decide) (by decide)

set_option maxRecDepth 65536 in
set_option maxHeartbeats 40000000 in
theorem cE_1 (l : Launch) (Z : State) (a0 : Array Value) (hw : ∀ d ∈ tables_1, d.before a0 Z = true) (ws : List Jvm.Cond) (b o : Addr) (h0 : Heap) (n0 : Nat) (Z0 : n0 ≤ h0.size) (E_o : Exa Z h0 o "java/lang/String") :
    Con l (⟨"com/example/ocotillo/ocotillo/core/FeedProblem", "equals", "(Ljava/lang/Object;)Z"⟩ : MethodName) prog_1_method_4_code 2 (some .boolean) ws ({ frames := 0, cells := 0, slots := 0, locals := 0 } : Room) Z #[(.ref b), (.ref o)] h0 (fun v h L => v = some (.int (0 : Int32)) ∧ L = [] ∧ h = h0) 0 0 := by
  refine enter (plainFor_of_name pn_2) ?_
  intro p e s m below meth c s₁ hnm hret hlk D0
  rw [ef_cE_1 m b o]
  refine g_aloadN D0 1 d_prog_1m4_0 rfl rfl rfl ?_
  refine g_instNo D0 4 (hw _ w_50) E_o (own_ninst (hw _ w_67) (hw _ w_68) (hw _ w_27) (by decide) (by decide)) d_prog_1m4_1 rfl ?_
  intro T141 D141
  refine g_ifY D141 42 d_prog_1m4_4 (by decide) (by decide) (by decide) ?_
  refine g_iconst D141 43 (0 : Int32) d_prog_1m4_42 rfl rfl ?_
  exact r_N D141 hret (by simp) hlk d_prog_1m4_43 ⟨rfl, rfl, rfl⟩ (by decide) (by decide)

set_option maxRecDepth 65536 in
set_option maxHeartbeats 40000000 in
theorem cE_2 (l : Launch) (Z : State) (a0 : Array Value) (hw : ∀ d ∈ tables_1, d.before a0 Z = true) (ws : List Jvm.Cond) (b o t1 t2 k1 k2 : Addr) (cs ds : List Int32) (zc : Int32) (h0 : Heap) (n0 : Nat) (Z0 : n0 ≤ h0.size) (OLD : Old Z n0 h0) (CS : Sta Z Z.heap "java/lang/String" "COMPACT_STRINGS" "Z" (.int zc)) (hzc : ¬ zc = 0) (E_o : Exa Z h0 o "com/example/ocotillo/ocotillo/core/FeedProblem") (F1 : Fld Z h0 b "com/example/ocotillo/ocotillo/core/FeedProblem" "title" "Ljava/lang/String;" (.ref t1)) (F2 : Fld Z h0 o "com/example/ocotillo/ocotillo/core/FeedProblem" "title" "Ljava/lang/String;" (.ref t2)) (G1 : Fld Z h0 b "com/example/ocotillo/ocotillo/core/FeedProblem" "code" "Lcom/example/ocotillo/ocotillo/core/FeedProblem$Code;" (.ref k1)) (G2 : Fld Z h0 o "com/example/ocotillo/ocotillo/core/FeedProblem" "code" "Lcom/example/ocotillo/ocotillo/core/FeedProblem$Code;" (.ref k2)) (X1 : LS Z h0 t1 cs) (X2 : LS Z h0 t2 ds) :
    Con l (⟨"com/example/ocotillo/ocotillo/core/FeedProblem", "equals", "(Ljava/lang/Object;)Z"⟩ : MethodName) prog_1_method_4_code 2 (some .boolean) ws ({ frames := 2, cells := 0, slots := 0, locals := 28 } : Room) Z #[(.ref b), (.ref o)] h0 (fun v h L => own_B (ds = cs ∧ k2 = k1) v ∧ L = [] ∧ h = h0) 0 0 := by
  refine enter (plainFor_of_name pn_2) ?_
  intro p e s m below meth c s₁ hnm hret hlk D0
  rw [ef_cE_2 m b o]
  refine g_aloadN D0 1 d_prog_1m4_0 rfl rfl rfl ?_
  refine g_instY D0 4 (hw _ w_50) (Ins.self E_o) d_prog_1m4_1 rfl ?_
  intro T142 D142
  refine g_ifN D142 7 d_prog_1m4_4 (by decide) rfl ?_
  refine g_aloadN D142 8 d_prog_1m4_7 rfl rfl rfl ?_
  refine g_castY D142 11 (hw _ w_50) (Ins.self E_o) d_prog_1m4_8 rfl ?_
  intro T143 D143
  refine g_getF D143 14 (hw _ w_39) Via.refl F2 d_prog_1m4_11 rfl ?_
  intro T144 D144
  refine g_aloadN D144 15 d_prog_1m4_14 rfl rfl rfl ?_
  refine g_getF D144 18 (hw _ w_39) Via.refl F1 d_prog_1m4_15 rfl ?_
  intro T145 D145
  refine g_callVp D145 21 (hw _ w_52) (hw _ w_53) (hw _ w_55) (hw _ w_55) (hw _ w_54) (by decide) (LS.eqB 0 D145 hw X2 X1 (CS.ext OLD.2) hzc (by decide) (by decide)) X2.exa rfl [(.ref t1)] rfl (lenOf pd_2 rfl) rfl (Nat.le_of_eq rfl) (by decide) (by decide) d_prog_1m4_18 rfl ?_
  intro v146 T146 q146 D146
  rcases q146 with ⟨rfl, qa⟩ | ⟨rfl, qa⟩
  · show Go p e below _ (T146.setTop (mkF m 21 #[.val (.ref b), .val (.ref o)] [(.int (1 : Int32))]))
    refine g_ifN D146 24 d_prog_1m4_21 (by decide) rfl ?_
    refine g_aloadN D146 25 d_prog_1m4_24 rfl rfl rfl ?_
    refine g_castY D146 28 (hw _ w_50) (Ins.self E_o) d_prog_1m4_25 rfl ?_
    intro T147 D147
    refine g_getF D147 31 (hw _ w_41) Via.refl G2 d_prog_1m4_28 rfl ?_
    intro T148 D148
    refine g_aloadN D148 32 d_prog_1m4_31 rfl rfl rfl ?_
    refine g_getF D148 35 (hw _ w_41) Via.refl G1 d_prog_1m4_32 rfl ?_
    intro T149 D149
    by_cases qk : k2 = k1
    · refine g_acmp D149 38 d_prog_1m4_35 rfl rfl (same := true) (decide_eq_true (congrArg Value.ref qk)) (by decide) (by decide) ?_
      refine g_iconst D149 39 (1 : Int32) d_prog_1m4_38 rfl rfl ?_
      refine g_goto D149 43 d_prog_1m4_39 (by decide) (by decide) ?_
      exact r_N D149 hret (by simp) hlk d_prog_1m4_43 ⟨⟨_, rfl, Or.inl ⟨own_nar1, qa, qk⟩⟩, rfl, rfl⟩ (by decide) (by decide)
    · refine g_acmp D149 42 d_prog_1m4_35 rfl rfl (same := false) (decide_eq_false fun q => qk (Value.ref.inj q)) (by decide) (by decide) ?_
      refine g_iconst D149 43 (0 : Int32) d_prog_1m4_42 rfl rfl ?_
      exact r_N D149 hret (by simp) hlk d_prog_1m4_43 ⟨⟨_, rfl, Or.inr ⟨own_nar0, fun q => qk q.2⟩⟩, rfl, rfl⟩ (by decide) (by decide)
  · show Go p e below _ (T146.setTop (mkF m 21 #[.val (.ref b), .val (.ref o)] [(.int (0 : Int32))]))
    refine g_ifY D146 42 d_prog_1m4_21 (by decide) (by decide) (by decide) ?_
    refine g_iconst D146 43 (0 : Int32) d_prog_1m4_42 rfl rfl ?_
    exact r_N D146 hret (by simp) hlk d_prog_1m4_43 ⟨⟨_, rfl, Or.inr ⟨own_nar0, fun q => qa q.1⟩⟩, rfl, rfl⟩ (by decide) (by decide)

set_option maxRecDepth 65536 in
set_option maxHeartbeats 40000000 in
theorem cX (l : Launch) (Z : State) (a0 : Array Value) (hw : ∀ d ∈ tables_1, d.before a0 Z = true) (ws : List Jvm.Cond) (t1 t2 k1 k2 mode zc : Int32) (G : Nat → Addr) (h0 : Heap) (n0 : Nat) (Z0 : n0 ≤ h0.size) (hEW : EW Z a0 consts_1) (OLD : Old Z n0 h0) (CS : Sta Z Z.heap "java/lang/String" "COMPACT_STRINGS" "Z" (.int zc)) (hzc : ¬ zc = 0) (S0 : Sta Z Z.heap "com/example/ocotillo/ocotillo/core/FeedProblem$Code" "NO_REQUIREMENT" "Lcom/example/ocotillo/ocotillo/core/FeedProblem$Code;" (.ref (G 0))) (S1 : Sta Z Z.heap "com/example/ocotillo/ocotillo/core/FeedProblem$Code" "SEVERAL_REQUIREMENTS" "Lcom/example/ocotillo/ocotillo/core/FeedProblem$Code;" (.ref (G 1))) (S2 : Sta Z Z.heap "com/example/ocotillo/ocotillo/core/FeedProblem$Code" "NO_CATEGORY" "Lcom/example/ocotillo/ocotillo/core/FeedProblem$Code;" (.ref (G 2))) (S3 : Sta Z Z.heap "com/example/ocotillo/ocotillo/core/FeedProblem$Code" "UNKNOWN_CATEGORY" "Lcom/example/ocotillo/ocotillo/core/FeedProblem$Code;" (.ref (G 3))) (S4 : Sta Z Z.heap "com/example/ocotillo/ocotillo/core/FeedProblem$Code" "NO_TIME_ZONE" "Lcom/example/ocotillo/ocotillo/core/FeedProblem$Code;" (.ref (G 4))) (S5 : Sta Z Z.heap "com/example/ocotillo/ocotillo/core/FeedProblem$Code" "BAD_DATE" "Lcom/example/ocotillo/ocotillo/core/FeedProblem$Code;" (.ref (G 5))) (S6 : Sta Z Z.heap "com/example/ocotillo/ocotillo/core/FeedProblem$Code" "ENDS_BEFORE_STARTS" "Lcom/example/ocotillo/ocotillo/core/FeedProblem$Code;" (.ref (G 6))) (S7 : Sta Z Z.heap "com/example/ocotillo/ocotillo/core/FeedProblem$Code" "UNKNOWN_REGION" "Lcom/example/ocotillo/ocotillo/core/FeedProblem$Code;" (.ref (G 7))) (S8 : Sta Z Z.heap "com/example/ocotillo/ocotillo/core/FeedProblem$Code" "UNKNOWN_SUBSCRIPTION" "Lcom/example/ocotillo/ocotillo/core/FeedProblem$Code;" (.ref (G 8))) (S9 : Sta Z Z.heap "com/example/ocotillo/ocotillo/core/FeedProblem$Code" "NO_IDENTIFIER" "Lcom/example/ocotillo/ocotillo/core/FeedProblem$Code;" (.ref (G 9))) (S10 : Sta Z Z.heap "com/example/ocotillo/ocotillo/core/FeedProblem$Code" "SUBSCRIPTION_WITHOUT_PACKAGE" "Lcom/example/ocotillo/ocotillo/core/FeedProblem$Code;" (.ref (G 10))) (hG : ∀ i j, i < 11 → j < 11 → G i = G j → i = j) :
    ConW l x code maxLocals ret ws room_1 Z consts_1 #[(.int t1), (.int t2), (.int k1), (.int k2), (.int mode)] h0 (fun v h L => v = some (.int 1) ∧ Fr n0 L) 32 1152 := by
  refine enterW (plainFor_of_name pn_1) ?_
  intro p e s m below meth c s₁ hnm hret hlk D0
  rw [ef_cX m t1 t2 k1 k2 mode]
  refine g_iload D0 2 at_0 rfl rfl ?_
  refine g_iconst D0 3 (1 : Int32) at_2 rfl rfl ?_
  refine g_iand D0 4 at_3 rfl ?_
  suffices K150 : ∀ y150 : Int32, True → Go p e below (WG Z consts_1 s (fun v h L => v = some (.int 1) ∧ Fr n0 L) 32 1152) (s₁.setTop (mkF m 12 #[.val (.int t1), .val (.int t2), .val (.int k1), .val (.int k2), .val (.int mode), .unset, .unset, .unset, .unset, .unset, .unset, .unset, .unset, .unset, .unset, .unset, .unset, .unset, .unset, .unset, .unset, .unset, .unset, .unset] [(.int y150)])) by
    by_cases hr151 : (mode &&& (1 : Int32)) = (0 : Int32)
    · refine g_ifY D0 11 at_4 (teq hr151).1 (by decide) (by decide) ?_
      refine g_iconst D0 12 (0 : Int32) at_11 rfl rfl ?_
      exact K150 _ trivial
    · refine g_ifN D0 7 at_4 (feq hr151).1 rfl ?_
      refine g_iconst D0 8 (1 : Int32) at_7 rfl rfl ?_
      refine g_goto D0 12 at_8 (by decide) (by decide) ?_
      exact K150 _ trivial
  intro y150 hy150
  refine g_istore D0 14 #[.val (.int t1), .val (.int t2), .val (.int k1), .val (.int k2), .val (.int mode), .val (.int y150), .unset, .unset, .unset, .unset, .unset, .unset, .unset, .unset, .unset, .unset, .unset, .unset, .unset, .unset, .unset, .unset, .unset, .unset] at_12 rfl rfl ?_
  refine g_iload D0 16 at_14 rfl rfl ?_
  refine g_iconst D0 17 (2 : Int32) at_16 rfl rfl ?_
  refine g_iand D0 18 at_17 rfl ?_
  suffices K152 : ∀ y152 : Int32, True → Go p e below (WG Z consts_1 s (fun v h L => v = some (.int 1) ∧ Fr n0 L) 32 1152) (s₁.setTop (mkF m 26 #[.val (.int t1), .val (.int t2), .val (.int k1), .val (.int k2), .val (.int mode), .val (.int y150), .unset, .unset, .unset, .unset, .unset, .unset, .unset, .unset, .unset, .unset, .unset, .unset, .unset, .unset, .unset, .unset, .unset, .unset] [(.int y152)])) by
    by_cases hr153 : (mode &&& (2 : Int32)) = (0 : Int32)
    · refine g_ifY D0 25 at_18 (teq hr153).1 (by decide) (by decide) ?_
      refine g_iconst D0 26 (0 : Int32) at_25 rfl rfl ?_
      exact K152 _ trivial
    · refine g_ifN D0 21 at_18 (feq hr153).1 rfl ?_
      refine g_iconst D0 22 (1 : Int32) at_21 rfl rfl ?_
      refine g_goto D0 26 at_22 (by decide) (by decide) ?_
      exact K152 _ trivial
  intro y152 hy152
  refine g_istore D0 28 #[.val (.int t1), .val (.int t2), .val (.int k1), .val (.int k2), .val (.int mode), .val (.int y150), .val (.int y152), .unset, .unset, .unset, .unset, .unset, .unset, .unset, .unset, .unset, .unset, .unset, .unset, .unset, .unset, .unset, .unset, .unset] at_26 rfl rfl ?_
  refine g_iload D0 30 at_28 rfl rfl ?_
  suffices K154 : ∀ u2 : Int32, True → Go p e below (WG Z consts_1 s (fun v h L => v = some (.int 1) ∧ Fr n0 L) 32 1152) (s₁.setTop (mkF m 38 #[.val (.int t1), .val (.int t2), .val (.int k1), .val (.int k2), .val (.int mode), .val (.int y150), .val (.int y152), .unset, .unset, .unset, .unset, .unset, .unset, .unset, .unset, .unset, .unset, .unset, .unset, .unset, .unset, .unset, .unset, .unset] [(.int u2)])) by
    by_cases hr155 : y150 = (0 : Int32)
    · refine g_ifY D0 37 at_30 (teq hr155).1 (by decide) (by decide) ?_
      refine g_iloadN D0 38 at_37 rfl rfl ?_
      exact K154 _ trivial
    · refine g_ifN D0 33 at_30 (feq hr155).1 rfl ?_
      refine g_iloadN D0 34 at_33 rfl rfl ?_
      refine g_goto D0 38 at_34 (by decide) (by decide) ?_
      exact K154 _ trivial
  intro u2 hu2
  refine g_istore D0 40 #[.val (.int t1), .val (.int t2), .val (.int k1), .val (.int k2), .val (.int mode), .val (.int y150), .val (.int y152), .val (.int u2), .unset, .unset, .unset, .unset, .unset, .unset, .unset, .unset, .unset, .unset, .unset, .unset, .unset, .unset, .unset, .unset] at_38 rfl rfl ?_
  refine g_iloadN D0 41 at_40 rfl rfl ?_
  refine g_bipush D0 43 (8 : Int32) at_41 rfl rfl ?_
  refine g_iushr D0 44 at_43 rfl ?_
  refine g_iconst D0 45 (3 : Int32) at_44 rfl rfl ?_
  refine g_iand D0 46 at_45 rfl ?_
  refine g_istore D0 48 #[.val (.int t1), .val (.int t2), .val (.int k1), .val (.int k2), .val (.int mode), .val (.int y150), .val (.int y152), .val (.int u2), .val (.int ((XT.ushr k1 (8 : Int32)) &&& (3 : Int32))), .unset, .unset, .unset, .unset, .unset, .unset, .unset, .unset, .unset, .unset, .unset, .unset, .unset, .unset, .unset] at_46 rfl rfl ?_
  generalize hel1 : ((XT.ushr k1 (8 : Int32)) &&& (3 : Int32)) = l1
  have hl1 : (0 ≤ l1.toInt ∧ l1.toInt ≤ 3) := hel1 ▸ (and_le _ (k := 3) (K := 3) (by decide) (by decide))
  refine g_iload D0 50 at_48 rfl rfl ?_
  suffices K156 : ∀ l2 : Int32, (0 ≤ l2.toInt ∧ l2.toInt ≤ 3) → Go p e below (WG Z consts_1 s (fun v h L => v = some (.int 1) ∧ Fr n0 L) 32 1152) (s₁.setTop (mkF m 64 #[.val (.int t1), .val (.int t2), .val (.int k1), .val (.int k2), .val (.int mode), .val (.int y150), .val (.int y152), .val (.int u2), .val (.int l1), .unset, .unset, .unset, .unset, .unset, .unset, .unset, .unset, .unset, .unset, .unset, .unset, .unset, .unset, .unset] [(.int l2)])) by
    by_cases hr157 : y150 = (0 : Int32)
    · refine g_ifY D0 58 at_50 (teq hr157).1 (by decide) (by decide) ?_
      refine g_iloadN D0 59 at_58 rfl rfl ?_
      refine g_bipush D0 61 (8 : Int32) at_59 rfl rfl ?_
      refine g_iushr D0 62 at_61 rfl ?_
      refine g_iconst D0 63 (3 : Int32) at_62 rfl rfl ?_
      refine g_iand D0 64 at_63 rfl ?_
      exact K156 _ (and_le _ (k := 3) (K := 3) (by decide) (by decide))
    · refine g_ifN D0 53 at_50 (feq hr157).1 rfl ?_
      refine g_iload D0 55 at_53 rfl rfl ?_
      refine g_goto D0 64 at_55 (by decide) (by decide) ?_
      exact K156 _ hl1
  intro l2 hl2
  refine g_istore D0 66 #[.val (.int t1), .val (.int t2), .val (.int k1), .val (.int k2), .val (.int mode), .val (.int y150), .val (.int y152), .val (.int u2), .val (.int l1), .val (.int l2), .unset, .unset, .unset, .unset, .unset, .unset, .unset, .unset, .unset, .unset, .unset, .unset, .unset, .unset] at_64 rfl rfl ?_
  refine g_iloadN D0 67 at_66 rfl rfl ?_
  refine g_bipush D0 69 (15 : Int32) at_67 rfl rfl ?_
  refine g_iand D0 70 at_69 rfl ?_
  refine g_bipush D0 72 (11 : Int32) at_70 rfl rfl ?_
  refine g_irem D0 73 at_72 (by decide) rfl ?_
  refine g_istore D0 75 #[.val (.int t1), .val (.int t2), .val (.int k1), .val (.int k2), .val (.int mode), .val (.int y150), .val (.int y152), .val (.int u2), .val (.int l1), .val (.int l2), .val (.int ((k1 &&& (15 : Int32)) % (11 : Int32))), .unset, .unset, .unset, .unset, .unset, .unset, .unset, .unset, .unset, .unset, .unset, .unset, .unset] at_73 rfl rfl ?_
  generalize hei1 : ((k1 &&& (15 : Int32)) % (11 : Int32)) = i1
  have hi1 : (0 ≤ i1.toInt ∧ i1.toInt ≤ 10) := hei1 ▸ own_rem11 _
  refine g_iload D0 77 at_75 rfl rfl ?_
  suffices K158 : ∀ i2 : Int32, (0 ≤ i2.toInt ∧ i2.toInt ≤ 10) → Go p e below (WG Z consts_1 s (fun v h L => v = some (.int 1) ∧ Fr n0 L) 32 1152) (s₁.setTop (mkF m 92 #[.val (.int t1), .val (.int t2), .val (.int k1), .val (.int k2), .val (.int mode), .val (.int y150), .val (.int y152), .val (.int u2), .val (.int l1), .val (.int l2), .val (.int i1), .unset, .unset, .unset, .unset, .unset, .unset, .unset, .unset, .unset, .unset, .unset, .unset, .unset] [(.int i2)])) by
    by_cases hr159 : y152 = (0 : Int32)
    · refine g_ifY D0 85 at_77 (teq hr159).1 (by decide) (by decide) ?_
      refine g_iloadN D0 86 at_85 rfl rfl ?_
      refine g_bipush D0 88 (15 : Int32) at_86 rfl rfl ?_
      refine g_iand D0 89 at_88 rfl ?_
      refine g_bipush D0 91 (11 : Int32) at_89 rfl rfl ?_
      refine g_irem D0 92 at_91 (by decide) rfl ?_
      exact K158 _ (own_rem11 _)
    · refine g_ifN D0 80 at_77 (feq hr159).1 rfl ?_
      refine g_iload D0 82 at_80 rfl rfl ?_
      refine g_goto D0 92 at_82 (by decide) (by decide) ?_
      exact K158 _ hi1
  intro i2 hi2
  refine g_istore D0 94 #[.val (.int t1), .val (.int t2), .val (.int k1), .val (.int k2), .val (.int mode), .val (.int y150), .val (.int y152), .val (.int u2), .val (.int l1), .val (.int l2), .val (.int i1), .val (.int i2), .unset, .unset, .unset, .unset, .unset, .unset, .unset, .unset, .unset, .unset, .unset, .unset] at_92 rfl rfl ?_
  refine g_iloadN D0 95 at_94 rfl rfl ?_
  refine g_sipush D0 98 (255 : Int32) at_95 rfl rfl ?_
  refine g_iand D0 99 at_98 rfl ?_
  refine g_i2c D0 100 at_99 rfl ?_
  refine g_istore D0 102 #[.val (.int t1), .val (.int t2), .val (.int k1), .val (.int k2), .val (.int mode), .val (.int y150), .val (.int y152), .val (.int u2), .val (.int l1), .val (.int l2), .val (.int i1), .val (.int i2), .val (.int ((t1 &&& (255 : Int32)).toUInt32.toUInt16.toUInt32.toInt32)), .unset, .unset, .unset, .unset, .unset, .unset, .unset, .unset, .unset, .unset, .unset] at_100 rfl rfl ?_
  refine g_iloadN D0 103 at_102 rfl rfl ?_
  refine g_bipush D0 105 (8 : Int32) at_103 rfl rfl ?_
  refine g_iushr D0 106 at_105 rfl ?_
  refine g_sipush D0 109 (255 : Int32) at_106 rfl rfl ?_
  refine g_iand D0 110 at_109 rfl ?_
  refine g_i2c D0 111 at_110 rfl ?_
  refine g_istore D0 113 #[.val (.int t1), .val (.int t2), .val (.int k1), .val (.int k2), .val (.int mode), .val (.int y150), .val (.int y152), .val (.int u2), .val (.int l1), .val (.int l2), .val (.int i1), .val (.int i2), .val (.int ((t1 &&& (255 : Int32)).toUInt32.toUInt16.toUInt32.toInt32)), .val (.int (((XT.ushr t1 (8 : Int32)) &&& (255 : Int32)).toUInt32.toUInt16.toUInt32.toInt32)), .unset, .unset, .unset, .unset, .unset, .unset, .unset, .unset, .unset, .unset] at_111 rfl rfl ?_
  refine g_iloadN D0 114 at_113 rfl rfl ?_
  refine g_bipush D0 116 (16 : Int32) at_114 rfl rfl ?_
  refine g_iushr D0 117 at_116 rfl ?_
  refine g_sipush D0 120 (255 : Int32) at_117 rfl rfl ?_
  refine g_iand D0 121 at_120 rfl ?_
  refine g_i2c D0 122 at_121 rfl ?_
  refine g_istore D0 124 #[.val (.int t1), .val (.int t2), .val (.int k1), .val (.int k2), .val (.int mode), .val (.int y150), .val (.int y152), .val (.int u2), .val (.int l1), .val (.int l2), .val (.int i1), .val (.int i2), .val (.int ((t1 &&& (255 : Int32)).toUInt32.toUInt16.toUInt32.toInt32)), .val (.int (((XT.ushr t1 (8 : Int32)) &&& (255 : Int32)).toUInt32.toUInt16.toUInt32.toInt32)), .val (.int (((XT.ushr t1 (16 : Int32)) &&& (255 : Int32)).toUInt32.toUInt16.toUInt32.toInt32)), .unset, .unset, .unset, .unset, .unset, .unset, .unset, .unset, .unset] at_122 rfl rfl ?_
  refine g_iload D0 126 at_124 rfl rfl ?_
  refine g_sipush D0 129 (255 : Int32) at_126 rfl rfl ?_
  refine g_iand D0 130 at_129 rfl ?_
  refine g_i2c D0 131 at_130 rfl ?_
  refine g_istore D0 133 #[.val (.int t1), .val (.int t2), .val (.int k1), .val (.int k2), .val (.int mode), .val (.int y150), .val (.int y152), .val (.int u2), .val (.int l1), .val (.int l2), .val (.int i1), .val (.int i2), .val (.int ((t1 &&& (255 : Int32)).toUInt32.toUInt16.toUInt32.toInt32)), .val (.int (((XT.ushr t1 (8 : Int32)) &&& (255 : Int32)).toUInt32.toUInt16.toUInt32.toInt32)), .val (.int (((XT.ushr t1 (16 : Int32)) &&& (255 : Int32)).toUInt32.toUInt16.toUInt32.toInt32)), .val (.int ((u2 &&& (255 : Int32)).toUInt32.toUInt16.toUInt32.toInt32)), .unset, .unset, .unset, .unset, .unset, .unset, .unset, .unset] at_131 rfl rfl ?_
  refine g_iload D0 135 at_133 rfl rfl ?_
  refine g_bipush D0 137 (8 : Int32) at_135 rfl rfl ?_
  refine g_iushr D0 138 at_137 rfl ?_
  refine g_sipush D0 141 (255 : Int32) at_138 rfl rfl ?_
  refine g_iand D0 142 at_141 rfl ?_
  refine g_i2c D0 143 at_142 rfl ?_
  refine g_istore D0 145 #[.val (.int t1), .val (.int t2), .val (.int k1), .val (.int k2), .val (.int mode), .val (.int y150), .val (.int y152), .val (.int u2), .val (.int l1), .val (.int l2), .val (.int i1), .val (.int i2), .val (.int ((t1 &&& (255 : Int32)).toUInt32.toUInt16.toUInt32.toInt32)), .val (.int (((XT.ushr t1 (8 : Int32)) &&& (255 : Int32)).toUInt32.toUInt16.toUInt32.toInt32)), .val (.int (((XT.ushr t1 (16 : Int32)) &&& (255 : Int32)).toUInt32.toUInt16.toUInt32.toInt32)), .val (.int ((u2 &&& (255 : Int32)).toUInt32.toUInt16.toUInt32.toInt32)), .val (.int (((XT.ushr u2 (8 : Int32)) &&& (255 : Int32)).toUInt32.toUInt16.toUInt32.toInt32)), .unset, .unset, .unset, .unset, .unset, .unset, .unset] at_143 rfl rfl ?_
  refine g_iload D0 147 at_145 rfl rfl ?_
  refine g_bipush D0 149 (16 : Int32) at_147 rfl rfl ?_
  refine g_iushr D0 150 at_149 rfl ?_
  refine g_sipush D0 153 (255 : Int32) at_150 rfl rfl ?_
  refine g_iand D0 154 at_153 rfl ?_
  refine g_i2c D0 155 at_154 rfl ?_
  refine g_istore D0 157 #[.val (.int t1), .val (.int t2), .val (.int k1), .val (.int k2), .val (.int mode), .val (.int y150), .val (.int y152), .val (.int u2), .val (.int l1), .val (.int l2), .val (.int i1), .val (.int i2), .val (.int ((t1 &&& (255 : Int32)).toUInt32.toUInt16.toUInt32.toInt32)), .val (.int (((XT.ushr t1 (8 : Int32)) &&& (255 : Int32)).toUInt32.toUInt16.toUInt32.toInt32)), .val (.int (((XT.ushr t1 (16 : Int32)) &&& (255 : Int32)).toUInt32.toUInt16.toUInt32.toInt32)), .val (.int ((u2 &&& (255 : Int32)).toUInt32.toUInt16.toUInt32.toInt32)), .val (.int (((XT.ushr u2 (8 : Int32)) &&& (255 : Int32)).toUInt32.toUInt16.toUInt32.toInt32)), .val (.int (((XT.ushr u2 (16 : Int32)) &&& (255 : Int32)).toUInt32.toUInt16.toUInt32.toInt32)), .unset, .unset, .unset, .unset, .unset, .unset] at_155 rfl rfl ?_
  generalize hea0_ : ((t1 &&& (255 : Int32)).toUInt32.toUInt16.toUInt32.toInt32) = a0_
  have Ba0_ : B8 a0_ := hea0_ ▸ b8_i2c _
  generalize hea1_ : (((XT.ushr t1 (8 : Int32)) &&& (255 : Int32)).toUInt32.toUInt16.toUInt32.toInt32) = a1_
  have Ba1_ : B8 a1_ := hea1_ ▸ b8_i2c _
  generalize hea2_ : (((XT.ushr t1 (16 : Int32)) &&& (255 : Int32)).toUInt32.toUInt16.toUInt32.toInt32) = a2_
  have Ba2_ : B8 a2_ := hea2_ ▸ b8_i2c _
  generalize heb0_ : ((u2 &&& (255 : Int32)).toUInt32.toUInt16.toUInt32.toInt32) = b0_
  have Bb0_ : B8 b0_ := heb0_ ▸ b8_i2c _
  generalize heb1_ : (((XT.ushr u2 (8 : Int32)) &&& (255 : Int32)).toUInt32.toUInt16.toUInt32.toInt32) = b1_
  have Bb1_ : B8 b1_ := heb1_ ▸ b8_i2c _
  generalize heb2_ : (((XT.ushr u2 (16 : Int32)) &&& (255 : Int32)).toUInt32.toUInt16.toUInt32.toInt32) = b2_
  have Bb2_ : B8 b2_ := heb2_ ▸ b8_i2c _
  refine g_iload D0 159 at_157 rfl rfl ?_
  refine g_iload D0 161 at_159 rfl rfl ?_
  refine g_iload D0 163 at_161 rfl rfl ?_
  refine g_iload D0 165 at_163 rfl rfl ?_
  refine g_callSW D0 168 hEW (hw _ w_0) (hw _ w_1) (hw _ w_2) (hw _ w_3) (by decide) (cMk l Z a0 hw [] l1 a0_ a1_ a2_ zc h0 n0 Z0 hEW OLD CS hzc Ba0_ Ba1_ Ba2_) rfl [(.int l1), (.int a0_), (.int a1_), (.int a2_)] rfl (lenOf pd_3 rfl) rfl 0 (Nat.le_of_eq rfl) (by decide) (by decide) (by decide) (by decide) at_165 rfl ?_
  intro v160 s160 T160 h160 L160 q160 SF160 D160
  obtain ⟨st160, rfl, N160, E160, X160⟩ := q160
  have NF160 := Fr.app (Fr.nil n0) N160
  show Go p e below _ (T160.setTop (mkF m 168 #[.val (.int t1), .val (.int t2), .val (.int k1), .val (.int k2), .val (.int mode), .val (.int y150), .val (.int y152), .val (.int u2), .val (.int l1), .val (.int l2), .val (.int i1), .val (.int i2), .val (.int a0_), .val (.int a1_), .val (.int a2_), .val (.int b0_), .val (.int b1_), .val (.int b2_), .unset, .unset, .unset, .unset, .unset, .unset] [(.ref st160)]))
  refine g_astore D160 170 #[.val (.int t1), .val (.int t2), .val (.int k1), .val (.int k2), .val (.int mode), .val (.int y150), .val (.int y152), .val (.int u2), .val (.int l1), .val (.int l2), .val (.int i1), .val (.int i2), .val (.int a0_), .val (.int a1_), .val (.int a2_), .val (.int b0_), .val (.int b1_), .val (.int b2_), .val (.ref st160), .unset, .unset, .unset, .unset, .unset] at_168 rfl rfl rfl ?_
  refine g_iload D160 172 at_170 rfl rfl ?_
  refine g_iload D160 174 at_172 rfl rfl ?_
  refine g_iload D160 176 at_174 rfl rfl ?_
  refine g_iload D160 178 at_176 rfl rfl ?_
  refine g_callSW D160 181 hEW (hw _ w_0) (hw _ w_1) (hw _ w_2) (hw _ w_3) (by decide) (cMk l Z a0 hw [] l2 b0_ b1_ b2_ zc h160 n0 (Nat.le_trans Z0 E160.1) hEW (OLD.ext E160) CS hzc Bb0_ Bb1_ Bb2_) rfl [(.int l2), (.int b0_), (.int b1_), (.int b2_)] rfl (lenOf pd_3 rfl) rfl 0 (Nat.le_of_eq rfl) (by decide) (by decide) (by decide) (by decide) at_178 rfl ?_
  intro v161 s161 T161 h161 L161 q161 SF161 D161
  obtain ⟨st161, rfl, N161, E161, X161⟩ := q161
  have NF161 := Fr.app NF160 N161
  show Go p e below _ (T161.setTop (mkF m 181 #[.val (.int t1), .val (.int t2), .val (.int k1), .val (.int k2), .val (.int mode), .val (.int y150), .val (.int y152), .val (.int u2), .val (.int l1), .val (.int l2), .val (.int i1), .val (.int i2), .val (.int a0_), .val (.int a1_), .val (.int a2_), .val (.int b0_), .val (.int b1_), .val (.int b2_), .val (.ref st160), .unset, .unset, .unset, .unset, .unset] [(.ref st161)]))
  refine g_astore D161 183 #[.val (.int t1), .val (.int t2), .val (.int k1), .val (.int k2), .val (.int mode), .val (.int y150), .val (.int y152), .val (.int u2), .val (.int l1), .val (.int l2), .val (.int i1), .val (.int i2), .val (.int a0_), .val (.int a1_), .val (.int a2_), .val (.int b0_), .val (.int b1_), .val (.int b2_), .val (.ref st160), .val (.ref st161), .unset, .unset, .unset, .unset] at_181 rfl rfl rfl ?_
  refine g_newO D161 186 (hw _ w_26) (hw _ w_27) (hw _ w_28) at_183 (by decide) (by decide) (fun _ E => D161.iv.ext E) rfl ?_
  intro T162 h162 a162 g162 E162 A162 N162 D162
  refine g_dup D162 187 at_186 rfl rfl ?_
  refine g_aload D162 189 at_187 rfl rfl rfl ?_
  refine g_iload D162 191 at_189 rfl rfl ?_
  refine g_callSp D162 194 (hw _ w_29) (hw _ w_30) (hw _ w_2) (hw _ w_31) (by decide) ((cCd l Z a0 hw [] G i1 h162 n0 (Nat.le_trans (Nat.le_trans (Nat.le_trans Z0 E160.1) E161.1) E162.1) (((OLD.ext E160).ext E161).ext E162) S0 S1 S2 S3 S4 S5 S6 S7 S8 S9 S10).back D162 3 (hw _ w_31) (hw _ w_2) (by decide) (by decide)) rfl [(.int i1)] rfl (lenOf pd_4 rfl) rfl (Nat.le_of_eq rfl) (by decide) (by decide) at_191 rfl ?_
  intro v163 T163 q163 D163
  subst q163
  show Go p e below _ (T163.setTop (mkF m 194 #[.val (.int t1), .val (.int t2), .val (.int k1), .val (.int k2), .val (.int mode), .val (.int y150), .val (.int y152), .val (.int u2), .val (.int l1), .val (.int l2), .val (.int i1), .val (.int i2), .val (.int a0_), .val (.int a1_), .val (.int a2_), .val (.int b0_), .val (.int b1_), .val (.int b2_), .val (.ref st160), .val (.ref st161), .unset, .unset, .unset, .unset] [(.ref (own_cd G i1)), (.ref st160), (.ref a162), (.ref a162)]))
  refine g_callN D163 197 rfl (hw _ w_35) (hw _ w_36) (hw _ w_37) (by decide) ((cFI l Z a0 hw [] a162 st160 (own_cd G i1) h162 n0 (Nat.le_trans (Nat.le_trans (Nat.le_trans Z0 E160.1) E161.1) E162.1) A162 (N162 (Or.inr (hw _ w_40)) (ty := (.object "java/lang/String")) (by decide)) (N162 (Or.inr (hw _ w_42)) (ty := (.object "com/example/ocotillo/ocotillo/core/FeedProblem$Code")) (by decide)) (Nat.le_trans (Nat.le_trans (Nat.le_trans Z0 E160.1) E161.1) (Nat.le_of_eq g162.symm))).back D163 1 (hw _ w_37) (hw _ w_28) (by decide) (by decide)) rfl [(.ref st160), (.ref (own_cd G i1))] rfl (lenOf pd_5 rfl) rfl (Nat.le_of_eq rfl) (by decide) (by decide) (fun _ _ _ q => D163.iv.keep (sfS (Safe.exa D163.wm.alike A162 (by decide) (by decide)) sf0) q.2.2.1) at_194 rfl ?_
  intro v164 T164 h164 L164 q164 D164
  obtain ⟨rfl, N164, K164, A164, P164, R164⟩ := q164
  have NF164 := Fr.app NF161 N164
  show Go p e below _ (T164.setTop (mkF m 197 #[.val (.int t1), .val (.int t2), .val (.int k1), .val (.int k2), .val (.int mode), .val (.int y150), .val (.int y152), .val (.int u2), .val (.int l1), .val (.int l2), .val (.int i1), .val (.int i2), .val (.int a0_), .val (.int a1_), .val (.int a2_), .val (.int b0_), .val (.int b1_), .val (.int b2_), .val (.ref st160), .val (.ref st161), .unset, .unset, .unset, .unset] [(.ref a162)]))
  refine g_astore D164 199 #[.val (.int t1), .val (.int t2), .val (.int k1), .val (.int k2), .val (.int mode), .val (.int y150), .val (.int y152), .val (.int u2), .val (.int l1), .val (.int l2), .val (.int i1), .val (.int i2), .val (.int a0_), .val (.int a1_), .val (.int a2_), .val (.int b0_), .val (.int b1_), .val (.int b2_), .val (.ref st160), .val (.ref st161), .val (.ref a162), .unset, .unset, .unset] at_197 rfl rfl rfl ?_
  refine g_newO D164 202 (hw _ w_26) (hw _ w_27) (hw _ w_28) at_199 (by decide) (by decide) (fun _ E => D164.iv.ext E) rfl ?_
  intro T165 h165 a165 g165 E165 A165 N165 D165
  refine g_dup D165 203 at_202 rfl rfl ?_
  refine g_aload D165 205 at_203 rfl rfl rfl ?_
  refine g_iload D165 207 at_205 rfl rfl ?_
  refine g_callSp D165 210 (hw _ w_29) (hw _ w_30) (hw _ w_2) (hw _ w_31) (by decide) ((cCd l Z a0 hw [] G i2 h165 n0 (Nat.le_trans (Nat.le_trans (Nat.le_trans (Nat.le_trans (Nat.le_trans Z0 E160.1) E161.1) E162.1) K164.1) E165.1) (((((OLD.ext E160).ext E161).ext E162).keep K164 (allS (Nat.le_trans (Nat.le_trans (Nat.le_trans Z0 E160.1) E161.1) (Nat.le_of_eq g162.symm)) all0)).ext E165) S0 S1 S2 S3 S4 S5 S6 S7 S8 S9 S10).back D165 3 (hw _ w_31) (hw _ w_2) (by decide) (by decide)) rfl [(.int i2)] rfl (lenOf pd_4 rfl) rfl (Nat.le_of_eq rfl) (by decide) (by decide) at_207 rfl ?_
  intro v166 T166 q166 D166
  subst q166
  show Go p e below _ (T166.setTop (mkF m 210 #[.val (.int t1), .val (.int t2), .val (.int k1), .val (.int k2), .val (.int mode), .val (.int y150), .val (.int y152), .val (.int u2), .val (.int l1), .val (.int l2), .val (.int i1), .val (.int i2), .val (.int a0_), .val (.int a1_), .val (.int a2_), .val (.int b0_), .val (.int b1_), .val (.int b2_), .val (.ref st160), .val (.ref st161), .val (.ref a162), .unset, .unset, .unset] [(.ref (own_cd G i2)), (.ref st161), (.ref a165), (.ref a165)]))
  refine g_callN D166 213 rfl (hw _ w_35) (hw _ w_36) (hw _ w_37) (by decide) ((cFI l Z a0 hw [] a165 st161 (own_cd G i2) h165 n0 (Nat.le_trans (Nat.le_trans (Nat.le_trans (Nat.le_trans (Nat.le_trans Z0 E160.1) E161.1) E162.1) K164.1) E165.1) A165 (N165 (Or.inr (hw _ w_40)) (ty := (.object "java/lang/String")) (by decide)) (N165 (Or.inr (hw _ w_42)) (ty := (.object "com/example/ocotillo/ocotillo/core/FeedProblem$Code")) (by decide)) (Nat.le_trans (Nat.le_trans (Nat.le_trans (Nat.le_trans (Nat.le_trans Z0 E160.1) E161.1) E162.1) K164.1) (Nat.le_of_eq g165.symm))).back D166 1 (hw _ w_37) (hw _ w_28) (by decide) (by decide)) rfl [(.ref st161), (.ref (own_cd G i2))] rfl (lenOf pd_5 rfl) rfl (Nat.le_of_eq rfl) (by decide) (by decide) (fun _ _ _ q => D166.iv.keep (sfS (Safe.exa D166.wm.alike A165 (by decide) (by decide)) sf0) q.2.2.1) at_210 rfl ?_
  intro v167 T167 h167 L167 q167 D167
  obtain ⟨rfl, N167, K167, A167, P167, R167⟩ := q167
  have NF167 := Fr.app NF164 N167
  show Go p e below _ (T167.setTop (mkF m 213 #[.val (.int t1), .val (.int t2), .val (.int k1), .val (.int k2), .val (.int mode), .val (.int y150), .val (.int y152), .val (.int u2), .val (.int l1), .val (.int l2), .val (.int i1), .val (.int i2), .val (.int a0_), .val (.int a1_), .val (.int a2_), .val (.int b0_), .val (.int b1_), .val (.int b2_), .val (.ref st160), .val (.ref st161), .val (.ref a162), .unset, .unset, .unset] [(.ref a165)]))
  refine g_astore D167 215 #[.val (.int t1), .val (.int t2), .val (.int k1), .val (.int k2), .val (.int mode), .val (.int y150), .val (.int y152), .val (.int u2), .val (.int l1), .val (.int l2), .val (.int i1), .val (.int i2), .val (.int a0_), .val (.int a1_), .val (.int a2_), .val (.int b0_), .val (.int b1_), .val (.int b2_), .val (.ref st160), .val (.ref st161), .val (.ref a162), .val (.ref a165), .unset, .unset] at_213 rfl rfl rfl ?_
  refine g_iload D167 217 at_215 rfl rfl ?_
  refine g_iconst D167 218 (2 : Int32) at_217 rfl rfl ?_
  refine g_iushr D167 219 at_218 rfl ?_
  refine g_iconst D167 220 (3 : Int32) at_219 rfl rfl ?_
  refine g_iand D167 221 at_220 rfl ?_
  refine g_istore D167 223 #[.val (.int t1), .val (.int t2), .val (.int k1), .val (.int k2), .val (.int mode), .val (.int y150), .val (.int y152), .val (.int u2), .val (.int l1), .val (.int l2), .val (.int i1), .val (.int i2), .val (.int a0_), .val (.int a1_), .val (.int a2_), .val (.int b0_), .val (.int b1_), .val (.int b2_), .val (.ref st160), .val (.ref st161), .val (.ref a162), .val (.ref a165), .val (.int ((XT.ushr mode (2 : Int32)) &&& (3 : Int32))), .unset] at_221 rfl rfl ?_
  refine g_iload D167 225 at_223 rfl rfl ?_
  refine g_iconst D167 226 (1 : Int32) at_225 rfl rfl ?_
  have X1 := (X160.ext (Keep.toExt ((((((Keep.refl _ []).ext E161).ext E162).trans K164 (allS (Or.inr (Nat.le_trans (Nat.le_trans (Nat.le_refl _) E161.1) (Nat.le_of_eq g162.symm))) all0)).ext E165).trans K167 (allS (Or.inr (Nat.le_trans (Nat.le_trans (Nat.le_trans (Nat.le_trans (Nat.le_refl _) E161.1) E162.1) K164.1) (Nat.le_of_eq g165.symm))) all0))))
  have X2 := (X161.ext (Keep.toExt (((((Keep.refl _ []).ext E162).trans K164 (allS (Or.inr (Nat.le_trans (Nat.le_refl _) (Nat.le_of_eq g162.symm))) all0)).ext E165).trans K167 (allS (Or.inr (Nat.le_trans (Nat.le_trans (Nat.le_trans (Nat.le_refl _) E162.1) K164.1) (Nat.le_of_eq g165.symm))) all0))))
  have OLD9 := ((((((OLD.ext E160).ext E161).ext E162).keep K164 (allS (Nat.le_trans (Nat.le_trans (Nat.le_trans Z0 E160.1) E161.1) (Nat.le_of_eq g162.symm)) all0)).ext E165).keep K167 (allS (Nat.le_trans (Nat.le_trans (Nat.le_trans (Nat.le_trans (Nat.le_trans Z0 E160.1) E161.1) E162.1) K164.1) (Nat.le_of_eq g165.symm)) all0))
  have Z9 : n0 ≤ h167.size := (Nat.le_trans (Nat.le_trans (Nat.le_trans (Nat.le_trans (Nat.le_trans (Nat.le_trans Z0 E160.1) E161.1) E162.1) K164.1) E165.1) K167.1)
  have Ep_ := ((A164.ext E165).keep K167)
  have Eq_ := A167
  have Tp_ := ((P164.ext E165).keep K167 (ninS (Nat.ne_of_lt (Nat.lt_of_lt_of_le (Nat.lt_of_lt_of_le A162.lt K164.1) (Nat.le_of_eq g165.symm))) nin0))
  have Tq_ := P167
  have Kp_ := ((R164.ext E165).keep K167 (ninS (Nat.ne_of_lt (Nat.lt_of_lt_of_le (Nat.lt_of_lt_of_le A162.lt K164.1) (Nat.le_of_eq g165.symm))) nin0))
  have Kq_ := R167
  have SX := LS.exa X1
  by_cases d1 : ((XT.ushr mode (2 : Int32)) &&& (3 : Int32)) = (1 : Int32)
  · refine g_icmpN D167 229 at_226 (teq d1).2 rfl ?_
    refine g_aload D167 231 at_229 rfl rfl rfl ?_
    refine g_aconst D167 232 at_231 rfl ?_
    refine g_callVp D167 235 (hw _ w_45) (hw _ w_46) (hw _ w_48) (hw _ w_48) (hw _ w_47) (by decide) ((cE_0 l Z a0 hw [] a162 h167 n0 Z9).back D167 0 (hw _ w_49) (hw _ w_28) (by decide) (by decide)) Ep_ rfl [.null] rfl (lenOf pd_2 rfl) rfl (Nat.le_of_eq rfl) (by decide) (by decide) at_232 rfl ?_
    intro v168 T168 q168 D168
    subst q168
    show Go p e below _ (T168.setTop (mkF m 235 #[.val (.int t1), .val (.int t2), .val (.int k1), .val (.int k2), .val (.int mode), .val (.int y150), .val (.int y152), .val (.int u2), .val (.int l1), .val (.int l2), .val (.int i1), .val (.int i2), .val (.int a0_), .val (.int a1_), .val (.int a2_), .val (.int b0_), .val (.int b1_), .val (.int b2_), .val (.ref st160), .val (.ref st161), .val (.ref a162), .val (.ref a165), .val (.int ((XT.ushr mode (2 : Int32)) &&& (3 : Int32))), .unset] [(.int (0 : Int32))]))
    refine g_ifN D168 238 at_235 (by decide) rfl ?_
    refine g_iconst D168 239 (1 : Int32) at_238 rfl rfl ?_
    refine g_goto D168 243 at_239 (by decide) (by decide) ?_
    exact r_Nw D168 hEW hret (by simp) hlk at_243 ⟨own_r1, NF167⟩ (by decide) (by decide)
  · refine g_icmpY D167 244 at_226 (feq d1).2 (by decide) (by decide) ?_
    refine g_iload D167 246 at_244 rfl rfl ?_
    refine g_iconst D167 247 (2 : Int32) at_246 rfl rfl ?_
    by_cases d2 : ((XT.ushr mode (2 : Int32)) &&& (3 : Int32)) = (2 : Int32)
    · refine g_icmpN D167 250 at_247 (teq d2).2 rfl ?_
      refine g_aload D167 252 at_250 rfl rfl rfl ?_
      refine g_aload D167 254 at_252 rfl rfl rfl ?_
      refine g_callVp D167 257 (hw _ w_45) (hw _ w_46) (hw _ w_48) (hw _ w_48) (hw _ w_47) (by decide) ((cE_1 l Z a0 hw [] a162 st160 h167 n0 Z9 SX).back D167 0 (hw _ w_49) (hw _ w_28) (by decide) (by decide)) Ep_ rfl [(.ref st160)] rfl (lenOf pd_2 rfl) rfl (Nat.le_of_eq rfl) (by decide) (by decide) at_254 rfl ?_
      intro v169 T169 q169 D169
      subst q169
      show Go p e below _ (T169.setTop (mkF m 257 #[.val (.int t1), .val (.int t2), .val (.int k1), .val (.int k2), .val (.int mode), .val (.int y150), .val (.int y152), .val (.int u2), .val (.int l1), .val (.int l2), .val (.int i1), .val (.int i2), .val (.int a0_), .val (.int a1_), .val (.int a2_), .val (.int b0_), .val (.int b1_), .val (.int b2_), .val (.ref st160), .val (.ref st161), .val (.ref a162), .val (.ref a165), .val (.int ((XT.ushr mode (2 : Int32)) &&& (3 : Int32))), .unset] [(.int (0 : Int32))]))
      refine g_ifN D169 260 at_257 (by decide) rfl ?_
      refine g_iconst D169 261 (1 : Int32) at_260 rfl rfl ?_
      refine g_goto D169 265 at_261 (by decide) (by decide) ?_
      exact r_Nw D169 hEW hret (by simp) hlk at_265 ⟨own_r1, NF167⟩ (by decide) (by decide)
    · refine g_icmpY D167 266 at_247 (feq d2).2 (by decide) (by decide) ?_
      refine g_iload D167 268 at_266 rfl rfl ?_
      refine g_iconst D167 269 (3 : Int32) at_268 rfl rfl ?_
      by_cases d3 : ((XT.ushr mode (2 : Int32)) &&& (3 : Int32)) = (3 : Int32)
      · refine g_icmpN D167 272 at_269 (teq d3).2 rfl ?_
        refine g_aload D167 274 at_272 rfl rfl rfl ?_
        refine g_aload D167 276 at_274 rfl rfl rfl ?_
        refine g_callVp D167 279 (hw _ w_45) (hw _ w_46) (hw _ w_48) (hw _ w_48) (hw _ w_47) (by decide) ((cE_2 l Z a0 hw [] a162 a162 st160 st160 (own_cd G i1) (own_cd G i1) (own_mk l1 a0_ a1_ a2_) (own_mk l1 a0_ a1_ a2_) zc h167 n0 Z9 OLD9 CS hzc Ep_ Tp_ Tp_ Kp_ Kp_ X1 X1).back D167 0 (hw _ w_49) (hw _ w_28) (by decide) (by decide)) Ep_ rfl [(.ref a162)] rfl (lenOf pd_2 rfl) rfl (Nat.le_of_eq rfl) (by decide) (by decide) at_276 rfl ?_
        intro v170 T170 q170 D170
        obtain ⟨r170, rfl, c170⟩ := q170
        obtain rfl := own_R.yes c170 ⟨rfl, rfl⟩
        show Go p e below _ (T170.setTop (mkF m 279 #[.val (.int t1), .val (.int t2), .val (.int k1), .val (.int k2), .val (.int mode), .val (.int y150), .val (.int y152), .val (.int u2), .val (.int l1), .val (.int l2), .val (.int i1), .val (.int i2), .val (.int a0_), .val (.int a1_), .val (.int a2_), .val (.int b0_), .val (.int b1_), .val (.int b2_), .val (.ref st160), .val (.ref st161), .val (.ref a162), .val (.ref a165), .val (.int ((XT.ushr mode (2 : Int32)) &&& (3 : Int32))), .unset] [(.int (1 : Int32))]))
        exact r_Nw D170 hEW hret (by simp) hlk at_279 ⟨own_r1, NF167⟩ (by decide) (by decide)
      · refine g_icmpY D167 280 at_269 (feq d3).2 (by decide) (by decide) ?_
        refine g_iload D167 282 at_280 rfl rfl ?_
        refine g_iload D167 284 at_282 rfl rfl ?_
        suffices K171 : ∀ ex : Int32, own_R (l1 = l2 ∧ (l1 < (1 : Int32) ∨ a0_ = b0_) ∧ (l1 < (2 : Int32) ∨ a1_ = b1_) ∧ (l1 < (3 : Int32) ∨ a2_ = b2_) ∧ i1 = i2) ex → Go p e below (WG Z consts_1 s (fun v h L => v = some (.int 1) ∧ Fr n0 L) 32 1152) (T167.setTop (mkF m 338 #[.val (.int t1), .val (.int t2), .val (.int k1), .val (.int k2), .val (.int mode), .val (.int y150), .val (.int y152), .val (.int u2), .val (.int l1), .val (.int l2), .val (.int i1), .val (.int i2), .val (.int a0_), .val (.int a1_), .val (.int a2_), .val (.int b0_), .val (.int b1_), .val (.int b2_), .val (.ref st160), .val (.ref st161), .val (.ref a162), .val (.ref a165), .val (.int ((XT.ushr mode (2 : Int32)) &&& (3 : Int32))), .unset] [(.int ex)])) by
          by_cases hr172 : l1 = l2
          · refine g_icmpN D167 287 at_284 (teq hr172).2 rfl ?_
            refine g_iload D167 289 at_287 rfl rfl ?_
            refine g_iconst D167 290 (1 : Int32) at_289 rfl rfl ?_
            by_cases hr173 : l1 < (1 : Int32)
            · refine g_icmpY D167 300 at_290 (tlt hr173).1 (by decide) (by decide) ?_
              refine g_iload D167 302 at_300 rfl rfl ?_
              refine g_iconst D167 303 (2 : Int32) at_302 rfl rfl ?_
              by_cases hr174 : l1 < (2 : Int32)
              · refine g_icmpY D167 313 at_303 (tlt hr174).1 (by decide) (by decide) ?_
                refine g_iload D167 315 at_313 rfl rfl ?_
                refine g_iconst D167 316 (3 : Int32) at_315 rfl rfl ?_
                by_cases hr175 : l1 < (3 : Int32)
                · refine g_icmpY D167 326 at_316 (tlt hr175).1 (by decide) (by decide) ?_
                  refine g_iload D167 328 at_326 rfl rfl ?_
                  refine g_iload D167 330 at_328 rfl rfl ?_
                  by_cases hr176 : i1 = i2
                  · refine g_icmpN D167 333 at_330 (teq hr176).2 rfl ?_
                    refine g_iconst D167 334 (1 : Int32) at_333 rfl rfl ?_
                    refine g_goto D167 338 at_334 (by decide) (by decide) ?_
                    exact K171 _ (own_l0 hr172 hr173 hr174 hr175 hr176)
                  · refine g_icmpY D167 337 at_330 (feq hr176).2 (by decide) (by decide) ?_
                    refine g_iconst D167 338 (0 : Int32) at_337 rfl rfl ?_
                    exact K171 _ (own_l1 hr172 hr173 hr174 hr175 hr176)
                · refine g_icmpN D167 319 at_316 (flt hr175).1 rfl ?_
                  refine g_iload D167 321 at_319 rfl rfl ?_
                  refine g_iload D167 323 at_321 rfl rfl ?_
                  by_cases hr177 : a2_ = b2_
                  · refine g_icmpN D167 326 at_323 (teq hr177).2 rfl ?_
                    refine g_iload D167 328 at_326 rfl rfl ?_
                    refine g_iload D167 330 at_328 rfl rfl ?_
                    by_cases hr178 : i1 = i2
                    · refine g_icmpN D167 333 at_330 (teq hr178).2 rfl ?_
                      refine g_iconst D167 334 (1 : Int32) at_333 rfl rfl ?_
                      refine g_goto D167 338 at_334 (by decide) (by decide) ?_
                      exact K171 _ (own_l2 hr172 hr173 hr174 hr175 hr177 hr178)
                    · refine g_icmpY D167 337 at_330 (feq hr178).2 (by decide) (by decide) ?_
                      refine g_iconst D167 338 (0 : Int32) at_337 rfl rfl ?_
                      exact K171 _ (own_l3 hr172 hr173 hr174 hr175 hr177 hr178)
                  · refine g_icmpY D167 337 at_323 (feq hr177).2 (by decide) (by decide) ?_
                    refine g_iconst D167 338 (0 : Int32) at_337 rfl rfl ?_
                    exact K171 _ (own_l4 hr172 hr173 hr174 hr175 hr177)
              · refine g_icmpN D167 306 at_303 (flt hr174).1 rfl ?_
                refine g_iload D167 308 at_306 rfl rfl ?_
                refine g_iload D167 310 at_308 rfl rfl ?_
                by_cases hr179 : a1_ = b1_
                · refine g_icmpN D167 313 at_310 (teq hr179).2 rfl ?_
                  refine g_iload D167 315 at_313 rfl rfl ?_
                  refine g_iconst D167 316 (3 : Int32) at_315 rfl rfl ?_
                  by_cases hr180 : l1 < (3 : Int32)
                  · refine g_icmpY D167 326 at_316 (tlt hr180).1 (by decide) (by decide) ?_
                    refine g_iload D167 328 at_326 rfl rfl ?_
                    refine g_iload D167 330 at_328 rfl rfl ?_
                    by_cases hr181 : i1 = i2
                    · refine g_icmpN D167 333 at_330 (teq hr181).2 rfl ?_
                      refine g_iconst D167 334 (1 : Int32) at_333 rfl rfl ?_
                      refine g_goto D167 338 at_334 (by decide) (by decide) ?_
                      exact K171 _ (own_l5 hr172 hr173 hr174 hr179 hr180 hr181)
                    · refine g_icmpY D167 337 at_330 (feq hr181).2 (by decide) (by decide) ?_
                      refine g_iconst D167 338 (0 : Int32) at_337 rfl rfl ?_
                      exact K171 _ (own_l6 hr172 hr173 hr174 hr179 hr180 hr181)
                  · refine g_icmpN D167 319 at_316 (flt hr180).1 rfl ?_
                    refine g_iload D167 321 at_319 rfl rfl ?_
                    refine g_iload D167 323 at_321 rfl rfl ?_
                    by_cases hr182 : a2_ = b2_
                    · refine g_icmpN D167 326 at_323 (teq hr182).2 rfl ?_
                      refine g_iload D167 328 at_326 rfl rfl ?_
                      refine g_iload D167 330 at_328 rfl rfl ?_
                      by_cases hr183 : i1 = i2
                      · refine g_icmpN D167 333 at_330 (teq hr183).2 rfl ?_
                        refine g_iconst D167 334 (1 : Int32) at_333 rfl rfl ?_
                        refine g_goto D167 338 at_334 (by decide) (by decide) ?_
                        exact K171 _ (own_l7 hr172 hr173 hr174 hr179 hr180 hr182 hr183)
                      · refine g_icmpY D167 337 at_330 (feq hr183).2 (by decide) (by decide) ?_
                        refine g_iconst D167 338 (0 : Int32) at_337 rfl rfl ?_
                        exact K171 _ (own_l8 hr172 hr173 hr174 hr179 hr180 hr182 hr183)
                    · refine g_icmpY D167 337 at_323 (feq hr182).2 (by decide) (by decide) ?_
                      refine g_iconst D167 338 (0 : Int32) at_337 rfl rfl ?_
                      exact K171 _ (own_l9 hr172 hr173 hr174 hr179 hr180 hr182)
                · refine g_icmpY D167 337 at_310 (feq hr179).2 (by decide) (by decide) ?_
                  refine g_iconst D167 338 (0 : Int32) at_337 rfl rfl ?_
                  exact K171 _ (own_l10 hr172 hr173 hr174 hr179)
            · refine g_icmpN D167 293 at_290 (flt hr173).1 rfl ?_
              refine g_iload D167 295 at_293 rfl rfl ?_
              refine g_iload D167 297 at_295 rfl rfl ?_
              by_cases hr184 : a0_ = b0_
              · refine g_icmpN D167 300 at_297 (teq hr184).2 rfl ?_
                refine g_iload D167 302 at_300 rfl rfl ?_
                refine g_iconst D167 303 (2 : Int32) at_302 rfl rfl ?_
                by_cases hr185 : l1 < (2 : Int32)
                · refine g_icmpY D167 313 at_303 (tlt hr185).1 (by decide) (by decide) ?_
                  refine g_iload D167 315 at_313 rfl rfl ?_
                  refine g_iconst D167 316 (3 : Int32) at_315 rfl rfl ?_
                  by_cases hr186 : l1 < (3 : Int32)
                  · refine g_icmpY D167 326 at_316 (tlt hr186).1 (by decide) (by decide) ?_
                    refine g_iload D167 328 at_326 rfl rfl ?_
                    refine g_iload D167 330 at_328 rfl rfl ?_
                    by_cases hr187 : i1 = i2
                    · refine g_icmpN D167 333 at_330 (teq hr187).2 rfl ?_
                      refine g_iconst D167 334 (1 : Int32) at_333 rfl rfl ?_
                      refine g_goto D167 338 at_334 (by decide) (by decide) ?_
                      exact K171 _ (own_l11 hr172 hr173 hr184 hr185 hr186 hr187)
                    · refine g_icmpY D167 337 at_330 (feq hr187).2 (by decide) (by decide) ?_
                      refine g_iconst D167 338 (0 : Int32) at_337 rfl rfl ?_
                      exact K171 _ (own_l12 hr172 hr173 hr184 hr185 hr186 hr187)
                  · refine g_icmpN D167 319 at_316 (flt hr186).1 rfl ?_
                    refine g_iload D167 321 at_319 rfl rfl ?_
                    refine g_iload D167 323 at_321 rfl rfl ?_
                    by_cases hr188 : a2_ = b2_
                    · refine g_icmpN D167 326 at_323 (teq hr188).2 rfl ?_
                      refine g_iload D167 328 at_326 rfl rfl ?_
                      refine g_iload D167 330 at_328 rfl rfl ?_
                      by_cases hr189 : i1 = i2
                      · refine g_icmpN D167 333 at_330 (teq hr189).2 rfl ?_
                        refine g_iconst D167 334 (1 : Int32) at_333 rfl rfl ?_
                        refine g_goto D167 338 at_334 (by decide) (by decide) ?_
                        exact K171 _ (own_l13 hr172 hr173 hr184 hr185 hr186 hr188 hr189)
                      · refine g_icmpY D167 337 at_330 (feq hr189).2 (by decide) (by decide) ?_
                        refine g_iconst D167 338 (0 : Int32) at_337 rfl rfl ?_
                        exact K171 _ (own_l14 hr172 hr173 hr184 hr185 hr186 hr188 hr189)
                    · refine g_icmpY D167 337 at_323 (feq hr188).2 (by decide) (by decide) ?_
                      refine g_iconst D167 338 (0 : Int32) at_337 rfl rfl ?_
                      exact K171 _ (own_l15 hr172 hr173 hr184 hr185 hr186 hr188)
                · refine g_icmpN D167 306 at_303 (flt hr185).1 rfl ?_
                  refine g_iload D167 308 at_306 rfl rfl ?_
                  refine g_iload D167 310 at_308 rfl rfl ?_
                  by_cases hr190 : a1_ = b1_
                  · refine g_icmpN D167 313 at_310 (teq hr190).2 rfl ?_
                    refine g_iload D167 315 at_313 rfl rfl ?_
                    refine g_iconst D167 316 (3 : Int32) at_315 rfl rfl ?_
                    by_cases hr191 : l1 < (3 : Int32)
                    · refine g_icmpY D167 326 at_316 (tlt hr191).1 (by decide) (by decide) ?_
                      refine g_iload D167 328 at_326 rfl rfl ?_
                      refine g_iload D167 330 at_328 rfl rfl ?_
                      by_cases hr192 : i1 = i2
                      · refine g_icmpN D167 333 at_330 (teq hr192).2 rfl ?_
                        refine g_iconst D167 334 (1 : Int32) at_333 rfl rfl ?_
                        refine g_goto D167 338 at_334 (by decide) (by decide) ?_
                        exact K171 _ (own_l16 hr172 hr173 hr184 hr185 hr190 hr191 hr192)
                      · refine g_icmpY D167 337 at_330 (feq hr192).2 (by decide) (by decide) ?_
                        refine g_iconst D167 338 (0 : Int32) at_337 rfl rfl ?_
                        exact K171 _ (own_l17 hr172 hr173 hr184 hr185 hr190 hr191 hr192)
                    · refine g_icmpN D167 319 at_316 (flt hr191).1 rfl ?_
                      refine g_iload D167 321 at_319 rfl rfl ?_
                      refine g_iload D167 323 at_321 rfl rfl ?_
                      by_cases hr193 : a2_ = b2_
                      · refine g_icmpN D167 326 at_323 (teq hr193).2 rfl ?_
                        refine g_iload D167 328 at_326 rfl rfl ?_
                        refine g_iload D167 330 at_328 rfl rfl ?_
                        by_cases hr194 : i1 = i2
                        · refine g_icmpN D167 333 at_330 (teq hr194).2 rfl ?_
                          refine g_iconst D167 334 (1 : Int32) at_333 rfl rfl ?_
                          refine g_goto D167 338 at_334 (by decide) (by decide) ?_
                          exact K171 _ (own_l18 hr172 hr173 hr184 hr185 hr190 hr191 hr193 hr194)
                        · refine g_icmpY D167 337 at_330 (feq hr194).2 (by decide) (by decide) ?_
                          refine g_iconst D167 338 (0 : Int32) at_337 rfl rfl ?_
                          exact K171 _ (own_l19 hr172 hr173 hr184 hr185 hr190 hr191 hr193 hr194)
                      · refine g_icmpY D167 337 at_323 (feq hr193).2 (by decide) (by decide) ?_
                        refine g_iconst D167 338 (0 : Int32) at_337 rfl rfl ?_
                        exact K171 _ (own_l20 hr172 hr173 hr184 hr185 hr190 hr191 hr193)
                  · refine g_icmpY D167 337 at_310 (feq hr190).2 (by decide) (by decide) ?_
                    refine g_iconst D167 338 (0 : Int32) at_337 rfl rfl ?_
                    exact K171 _ (own_l21 hr172 hr173 hr184 hr185 hr190)
              · refine g_icmpY D167 337 at_297 (feq hr184).2 (by decide) (by decide) ?_
                refine g_iconst D167 338 (0 : Int32) at_337 rfl rfl ?_
                exact K171 _ (own_l22 hr172 hr173 hr184)
          · refine g_icmpY D167 337 at_284 (feq hr172).2 (by decide) (by decide) ?_
            refine g_iconst D167 338 (0 : Int32) at_337 rfl rfl ?_
            exact K171 _ (own_l23 hr172)
        intro ex hex
        refine g_istore D167 340 #[.val (.int t1), .val (.int t2), .val (.int k1), .val (.int k2), .val (.int mode), .val (.int y150), .val (.int y152), .val (.int u2), .val (.int l1), .val (.int l2), .val (.int i1), .val (.int i2), .val (.int a0_), .val (.int a1_), .val (.int a2_), .val (.int b0_), .val (.int b1_), .val (.int b2_), .val (.ref st160), .val (.ref st161), .val (.ref a162), .val (.ref a165), .val (.int ((XT.ushr mode (2 : Int32)) &&& (3 : Int32))), .val (.int ex)] at_338 rfl rfl ?_
        refine g_aload D167 342 at_340 rfl rfl rfl ?_
        refine g_aload D167 344 at_342 rfl rfl rfl ?_
        have iff1 := own_iff (a0 := a0_) (a1 := a1_) (a2 := a2_) (b0 := b0_) (b1 := b1_) (b2 := b2_) hG hl1 hl2 hi1 hi2
        refine g_callVp D167 347 (hw _ w_45) (hw _ w_46) (hw _ w_48) (hw _ w_48) (hw _ w_47) (by decide) ((cE_2 l Z a0 hw [] a162 a165 st160 st161 (own_cd G i1) (own_cd G i2) (own_mk l1 a0_ a1_ a2_) (own_mk l2 b0_ b1_ b2_) zc h167 n0 Z9 OLD9 CS hzc Eq_ Tp_ Tq_ Kp_ Kq_ X1 X2).back D167 0 (hw _ w_49) (hw _ w_28) (by decide) (by decide)) Ep_ rfl [(.ref a165)] rfl (lenOf pd_2 rfl) rfl (Nat.le_of_eq rfl) (by decide) (by decide) at_344 rfl ?_
        intro v195 T195 q195 D195
        obtain ⟨r195, rfl, c195⟩ := q195
        rw [own_R.same c195 hex iff1.2]
        show Go p e below _ (T195.setTop (mkF m 347 #[.val (.int t1), .val (.int t2), .val (.int k1), .val (.int k2), .val (.int mode), .val (.int y150), .val (.int y152), .val (.int u2), .val (.int l1), .val (.int l2), .val (.int i1), .val (.int i2), .val (.int a0_), .val (.int a1_), .val (.int a2_), .val (.int b0_), .val (.int b1_), .val (.int b2_), .val (.ref st160), .val (.ref st161), .val (.ref a162), .val (.ref a165), .val (.int ((XT.ushr mode (2 : Int32)) &&& (3 : Int32))), .val (.int ex)] [(.int ex)]))
        refine g_iload D195 349 at_347 rfl rfl ?_
        refine g_icmpN D195 352 at_349 (teq rfl).2 rfl ?_
        refine g_aload D195 354 at_352 rfl rfl rfl ?_
        refine g_aload D195 356 at_354 rfl rfl rfl ?_
        refine g_callVp D195 359 (hw _ w_45) (hw _ w_46) (hw _ w_48) (hw _ w_48) (hw _ w_47) (by decide) ((cE_2 l Z a0 hw [] a165 a162 st161 st160 (own_cd G i2) (own_cd G i1) (own_mk l2 b0_ b1_ b2_) (own_mk l1 a0_ a1_ a2_) zc h167 n0 Z9 OLD9 CS hzc Ep_ Tq_ Tp_ Kq_ Kp_ X2 X1).back D195 0 (hw _ w_49) (hw _ w_28) (by decide) (by decide)) Eq_ rfl [(.ref a162)] rfl (lenOf pd_2 rfl) rfl (Nat.le_of_eq rfl) (by decide) (by decide) at_356 rfl ?_
        intro v196 T196 q196 D196
        obtain ⟨r196, rfl, c196⟩ := q196
        rw [own_R.same c196 hex iff1.1]
        show Go p e below _ (T196.setTop (mkF m 359 #[.val (.int t1), .val (.int t2), .val (.int k1), .val (.int k2), .val (.int mode), .val (.int y150), .val (.int y152), .val (.int u2), .val (.int l1), .val (.int l2), .val (.int i1), .val (.int i2), .val (.int a0_), .val (.int a1_), .val (.int a2_), .val (.int b0_), .val (.int b1_), .val (.int b2_), .val (.ref st160), .val (.ref st161), .val (.ref a162), .val (.ref a165), .val (.int ((XT.ushr mode (2 : Int32)) &&& (3 : Int32))), .val (.int ex)] [(.int ex)]))
        refine g_iload D196 361 at_359 rfl rfl ?_
        refine g_icmpN D196 364 at_361 (teq rfl).2 rfl ?_
        refine g_iconst D196 365 (1 : Int32) at_364 rfl rfl ?_
        refine g_goto D196 369 at_365 (by decide) (by decide) ?_
        exact r_Nw D196 hEW hret (by simp) hlk at_369 ⟨own_r1, NF167⟩ (by decide) (by decide)
set_option maxRecDepth 65536 in
set_option maxHeartbeats 40000000 in
theorem comes_1 {Post : Tables → Env → Array Value → State → Outcome → State → Prop} (hpost : ∀ tb e args s v u, (limb_1_1.after args s (.returned v) u = true ∧ limb_1_2.after args s (.returned v) u = true ∧ True) → ReturnedEndW s (.returned v) u (Jvm.fieldLocs frame_1_writes args s ++ Jvm.arrayLocs frame_1_arrays args s ++ Jvm.staticLocs frame_1_statics s) 32 1152 → Post tb e args s (.returned v) u) :
    ArmFor flags0 classFile x code maxLocals ret World_1 tables_1 room_1 Calls_1 rest_1 Pre_1 Post := by
  intro l hfl _ _ p e ha hc hk s m args below hf hA hF happ hP
  obtain ⟨hcalls, hrest, hpre⟩ := hP
  obtain ⟨-, -, -, hnamed, -, -, -, hat⟩ := (Spec.applies_iff hf).mp happ
  obtain ⟨hg, hn⟩ := and_e (Cond.before_iff.mp (show (Jvm.Cond.and given_1 narrow_1).before args s = true from hpre))
  obtain ⟨g1, gr1⟩ := and_e hg
  obtain ⟨g2, gr2⟩ := and_e gr1
  obtain ⟨g3, gr3⟩ := and_e gr2
  obtain ⟨g4, gr4⟩ := and_e gr3
  obtain ⟨g5, g6⟩ := and_e gr4
  obtain ⟨n1, nr1⟩ := and_e hn
  obtain ⟨n2, nr2⟩ := and_e nr1
  obtain ⟨n3, nr3⟩ := and_e nr2
  obtain ⟨n4, nr4⟩ := and_e nr3
  obtain ⟨n5, nr5⟩ := and_e nr4
  obtain ⟨n6, nr6⟩ := and_e nr5
  obtain ⟨n7, nr7⟩ := and_e nr6
  obtain ⟨n8, nr8⟩ := and_e nr7
  obtain ⟨n9, nr9⟩ := and_e nr8
  obtain ⟨n10, nr10⟩ := and_e nr9
  obtain ⟨n11, nr11⟩ := and_e nr10
  obtain ⟨n12, nr12⟩ := and_e nr11
  obtain ⟨n13, nr13⟩ := and_e nr12
  obtain ⟨n14, nr14⟩ := and_e nr13
  obtain ⟨n15, nr15⟩ := and_e nr14
  obtain ⟨n16, nr16⟩ := and_e nr15
  obtain ⟨n17, nr17⟩ := and_e nr16
  obtain ⟨n18, nr18⟩ := and_e nr17
  obtain ⟨n19, nr19⟩ := and_e nr18
  obtain ⟨n20, nr20⟩ := and_e nr19
  obtain ⟨n21, n22⟩ := and_e nr20
  obtain ⟨w0, w1, w2, w3, w4, rfl⟩ : ∃ w0 w1 w2 w3 w4 : Value, args = #[w0, w1, w2, w3, w4] := by
    have hs : args.size = 5 := by simpa [Cond.value, given_1] using g1
    obtain ⟨L⟩ := args
    match L, hs with
    | [w0, w1, w2, w3, w4], _ => exact ⟨w0, w1, w2, w3, w4, rfl⟩
  have hw := fun d (hd : d ∈ tables_1) => atoms_spec (ws := Jvm.Cond.code x code maxLocals ret :: tables_1) hat d (List.mem_cons_of_mem _ hd)
  obtain ⟨hsets, hown0⟩ := atoms_of _ (rest_1_c_eq ▸ (show rest_1_c.before _ s = true from hrest))
  have hfit : Fit s := fun {y c} hc i hi => by
    obtain ⟨ha, rfl⟩ := Array.getElem?_eq_some_iff.mp hc
    have q := List.all_eq_true.mp ((Array.all_eq_true_iff_forall_mem.mp hF) _ (Array.getElem_mem ha)) i (List.mem_range.mpr hi)
    simpa [Array.getElem?_eq_getElem hi] using q
  have c3 := not_v (Cond.before_iff.mp (hsets _ (List.mem_of_getElem? (i := 2) rfl)))
  obtain ⟨i0, ei0⟩ := is_v g2
  obtain rfl : w0 = (.int i0) := Option.some.inj ei0
  obtain ⟨i1, ei1⟩ := is_v g3
  obtain rfl : w1 = (.int i1) := Option.some.inj ei1
  obtain ⟨i2, ei2⟩ := is_v g4
  obtain rfl : w2 = (.int i2) := Option.some.inj ei2
  obtain ⟨i3, ei3⟩ := is_v g5
  obtain rfl : w3 = (.int i3) := Option.some.inj ei3
  obtain ⟨i4, ei4⟩ := is_v g6
  obtain rfl : w4 = (.int i4) := Option.some.inj ei4
  obtain ⟨zc, ec⟩ := is_v (Cond.before_iff.mp (hsets _ (List.mem_of_getElem? (i := 1) rfl)))
  have CS : Sta s s.heap "java/lang/String" "COMPACT_STRINGS" "Z" (.int zc) := Sta.start ec (Or.inl (hsets _ (List.mem_of_getElem? (i := 0) rfl)))
  have hzc : ¬ (zc = (0 : Int32)) := gotF (Cond.eq_ints ec (Term.int_eval (0))) c3
  obtain ⟨fm, ef, rfm⟩ := isR_v (Cond.before_iff.mp (hsets _ (List.mem_of_getElem? (i := 8) rfl)))
  have SF : Sta s s.heap "jdk/internal/util/Preconditions" "SIOOBE_FORMATTER" "Ljava/util/function/BiFunction;" fm := Sta.start ef (Or.inl (hsets _ (List.mem_of_getElem? (i := 7) rfl)))
  have hEW : EW s _ consts_1 := (EW.cons (hw _ w_18) (by decide) EW.nil)
  have hCH : CHv s consts_1 s.vm s.heap := CHv.start hEW hcalls.1 (hsets _ (List.mem_of_getElem? (i := 2) rfl)) (hw _ w_19) (hw _ w_5)
  obtain ⟨G0, eg0⟩ := exa_v n6
  have S0 : Sta s s.heap "com/example/ocotillo/ocotillo/core/FeedProblem$Code" "NO_REQUIREMENT" "Lcom/example/ocotillo/ocotillo/core/FeedProblem$Code;" (.ref G0) := Sta.start eg0 (Or.inr ⟨(hw _ w_33), (hw _ w_66)⟩)
  have O0 : Fld s s.heap G0 "java/lang/Enum" "ordinal" "I" (.int (0 : Int32)) := Fld.start ((fld_at eg0).symm.trans (eqv_i (Term.int_eval (0)) n16))
  obtain ⟨G1, eg1⟩ := exa_v n2
  have S1 : Sta s s.heap "com/example/ocotillo/ocotillo/core/FeedProblem$Code" "SEVERAL_REQUIREMENTS" "Lcom/example/ocotillo/ocotillo/core/FeedProblem$Code;" (.ref G1) := Sta.start eg1 (Or.inr ⟨(hw _ w_33), (hw _ w_44)⟩)
  have O1 : Fld s s.heap G1 "java/lang/Enum" "ordinal" "I" (.int (1 : Int32)) := Fld.start ((fld_at eg1).symm.trans (eqv_i (Term.int_eval (1)) n3))
  obtain ⟨G2, eg2⟩ := exa_v n1
  have S2 : Sta s s.heap "com/example/ocotillo/ocotillo/core/FeedProblem$Code" "NO_CATEGORY" "Lcom/example/ocotillo/ocotillo/core/FeedProblem$Code;" (.ref G2) := Sta.start eg2 (Or.inr ⟨(hw _ w_33), (hw _ w_34)⟩)
  have O2 : Fld s s.heap G2 "java/lang/Enum" "ordinal" "I" (.int (2 : Int32)) := Fld.start ((fld_at eg2).symm.trans (eqv_i (Term.int_eval (2)) n4))
  obtain ⟨G3, eg3⟩ := exa_v n9
  have S3 : Sta s s.heap "com/example/ocotillo/ocotillo/core/FeedProblem$Code" "UNKNOWN_CATEGORY" "Lcom/example/ocotillo/ocotillo/core/FeedProblem$Code;" (.ref G3) := Sta.start eg3 (Or.inr ⟨(hw _ w_33), (hw _ w_84)⟩)
  have O3 : Fld s s.heap G3 "java/lang/Enum" "ordinal" "I" (.int (3 : Int32)) := Fld.start ((fld_at eg3).symm.trans (eqv_i (Term.int_eval (3)) n15))
  obtain ⟨G4, eg4⟩ := exa_v n7
  have S4 : Sta s s.heap "com/example/ocotillo/ocotillo/core/FeedProblem$Code" "NO_TIME_ZONE" "Lcom/example/ocotillo/ocotillo/core/FeedProblem$Code;" (.ref G4) := Sta.start eg4 (Or.inr ⟨(hw _ w_33), (hw _ w_80)⟩)
  have O4 : Fld s s.heap G4 "java/lang/Enum" "ordinal" "I" (.int (4 : Int32)) := Fld.start ((fld_at eg4).symm.trans (eqv_i (Term.int_eval (4)) n19))
  obtain ⟨G5, eg5⟩ := exa_v n12
  have S5 : Sta s s.heap "com/example/ocotillo/ocotillo/core/FeedProblem$Code" "BAD_DATE" "Lcom/example/ocotillo/ocotillo/core/FeedProblem$Code;" (.ref G5) := Sta.start eg5 (Or.inr ⟨(hw _ w_33), (hw _ w_90)⟩)
  have O5 : Fld s s.heap G5 "java/lang/Enum" "ordinal" "I" (.int (5 : Int32)) := Fld.start ((fld_at eg5).symm.trans (eqv_i (Term.int_eval (5)) n13))
  obtain ⟨G6, eg6⟩ := exa_v n17
  have S6 : Sta s s.heap "com/example/ocotillo/ocotillo/core/FeedProblem$Code" "ENDS_BEFORE_STARTS" "Lcom/example/ocotillo/ocotillo/core/FeedProblem$Code;" (.ref G6) := Sta.start eg6 (Or.inr ⟨(hw _ w_33), (hw _ w_92)⟩)
  have O6 : Fld s s.heap G6 "java/lang/Enum" "ordinal" "I" (.int (6 : Int32)) := Fld.start ((fld_at eg6).symm.trans (eqv_i (Term.int_eval (6)) n21))
  obtain ⟨G7, eg7⟩ := exa_v n10
  have S7 : Sta s s.heap "com/example/ocotillo/ocotillo/core/FeedProblem$Code" "UNKNOWN_REGION" "Lcom/example/ocotillo/ocotillo/core/FeedProblem$Code;" (.ref G7) := Sta.start eg7 (Or.inr ⟨(hw _ w_33), (hw _ w_86)⟩)
  have O7 : Fld s s.heap G7 "java/lang/Enum" "ordinal" "I" (.int (7 : Int32)) := Fld.start ((fld_at eg7).symm.trans (eqv_i (Term.int_eval (7)) n18))
  obtain ⟨G8, eg8⟩ := exa_v n8
  have S8 : Sta s s.heap "com/example/ocotillo/ocotillo/core/FeedProblem$Code" "UNKNOWN_SUBSCRIPTION" "Lcom/example/ocotillo/ocotillo/core/FeedProblem$Code;" (.ref G8) := Sta.start eg8 (Or.inr ⟨(hw _ w_33), (hw _ w_82)⟩)
  have O8 : Fld s s.heap G8 "java/lang/Enum" "ordinal" "I" (.int (8 : Int32)) := Fld.start ((fld_at eg8).symm.trans (eqv_i (Term.int_eval (8)) n22))
  obtain ⟨G9, eg9⟩ := exa_v n11
  have S9 : Sta s s.heap "com/example/ocotillo/ocotillo/core/FeedProblem$Code" "NO_IDENTIFIER" "Lcom/example/ocotillo/ocotillo/core/FeedProblem$Code;" (.ref G9) := Sta.start eg9 (Or.inr ⟨(hw _ w_33), (hw _ w_88)⟩)
  have O9 : Fld s s.heap G9 "java/lang/Enum" "ordinal" "I" (.int (9 : Int32)) := Fld.start ((fld_at eg9).symm.trans (eqv_i (Term.int_eval (9)) n14))
  obtain ⟨G10, eg10⟩ := exa_v n5
  have S10 : Sta s s.heap "com/example/ocotillo/ocotillo/core/FeedProblem$Code" "SUBSCRIPTION_WITHOUT_PACKAGE" "Lcom/example/ocotillo/ocotillo/core/FeedProblem$Code;" (.ref G10) := Sta.start eg10 (Or.inr ⟨(hw _ w_33), (hw _ w_64)⟩)
  have O10 : Fld s s.heap G10 "java/lang/Enum" "ordinal" "I" (.int (10 : Int32)) := Fld.start ((fld_at eg10).symm.trans (eqv_i (Term.int_eval (10)) n20))
  have hO : ∀ i, i < 11 → Fld s s.heap ((fun i => [G0, G1, G2, G3, G4, G5, G6, G7, G8, G9, G10].getD i 0) i) "java/lang/Enum" "ordinal" "I" (.int (Int32.ofNat i)) := fun i hi => by
    match i, hi with
    | 0, _ => exact O0
    | 1, _ => exact O1
    | 2, _ => exact O2
    | 3, _ => exact O3
    | 4, _ => exact O4
    | 5, _ => exact O5
    | 6, _ => exact O6
    | 7, _ => exact O7
    | 8, _ => exact O8
    | 9, _ => exact O9
    | 10, _ => exact O10
    | n + 11, hi => exact absurd hi (by omega)
  have hG : ∀ i j, i < 11 → j < 11 → (fun i => [G0, G1, G2, G3, G4, G5, G6, G7, G8, G9, G10].getD i 0) i = (fun i => [G0, G1, G2, G3, G4, G5, G6, G7, G8, G9, G10].getD i 0) j → i = j := fun i j hi hj q => by
    have a := hO i hi
    have b := hO j hj
    by_cases e : Int32.ofNat i = Int32.ofNat j
    · have := congrArg Int32.toInt e
      rw [Int32.toInt_ofNat_small (by omega), Int32.toInt_ofNat_small (by omega)] at this
      omega
    · exact absurd q (Fld.ne a b (fun z => e (Value.int.inj z)))
  obtain ⟨n, o, h1, h2, h3, _, L, rfl, ⟨rfl, N⟩, -, hq⟩ := cX l s _ hw tables_1 i0 i1 i2 i3 i4 zc (fun i => [G0, G1, G2, G3, G4, G5, G6, G7, G8, G9, G10].getD i 0) s.heap s.heap.size (Nat.le_refl _) hEW (Old.start s) CS hzc S0 S1 S2 S3 S4 S5 S6 S7 S8 S9 S10 hG p e ha hc hk s m _ below hf ((Spec.applies_iff_loose hf).mp happ).1 ⟨rfl, State.Warmed39.refl s, rfl, hCH⟩ trivial
  refine ⟨n, _, h1, h2, h3, hpost _ _ _ _ _ _ ⟨Cond.after_iff.mpr rfl, Cond.after_iff.mpr (eq_i res_at (Term.int_eval (1)) rfl), trivial⟩ ⟨hq.1, hq.2.1, hq.2.2.1, (hq.2.2.2.sift fun y hy => Or.inr (N y hy)).mono (by decide) (by decide)⟩⟩
theorem main_1_1 : Claimed_1_1 := comes_1 fun _ _ _ _ _ _ h hF => ⟨h.1, hF⟩
theorem main_1_2 : Claimed_1_2 := comes_1 fun _ _ _ _ _ _ h hF => ⟨h.2.1, hF⟩
end Jvm.Pilot.@@N@@
namespace Jvm.Pilot.@@N@@
open Jvm Jvm.ClassFile Sem Op Lib Jvm.Free Jvm.Stand Jvm.Pilot.@@N@@.Jvm.D
/-! MADE BY PROGRAM (witnessworld.py) out of the Statement's table words and the real class files: 22 classes; the members and pool entries that the words name. The judged class is class 1, her method 3. -/
namespace start1
open Jvm.ClassFile
def u (s : String) : CpInfo := .utf8 (stringToUtf16 s)
/-- a pool by its gaps: so many unusable entries, then the entry; so many at the end -/
def gap : Nat → List CpInfo → List CpInfo
  | 0, r => r
  | n + 1, r => .unusable :: gap n r
def poolList (es : List (Nat × CpInfo)) (last : Nat) : List CpInfo := es.foldr (fun e r => gap e.1 (e.2 :: r)) (gap last [])
def pool (es : List (Nat × CpInfo)) (last : Nat) : Array CpInfo := ⟨poolList es last⟩
def fileOf (pool : Array CpInfo) (this : Nat) (attrs : Array Attribute := #[]) (ms : Array MethodInfo := #[]) (fl : Nat := 33) (sup : Nat := 0) (ifs : Array Nat := #[]) (fds : Array FieldInfo := #[]) : ClassFile where
  minorVersion := 0
  majorVersion := 65
  constantPool := pool
  accessFlags := fl
  thisClass := this
  superClass := sup
  interfaces := ifs
  fields := fds
  methods := ms
  attributes := attrs
def plain (name : String) (sup : Option ClassId) : Class where
  name := name
  kind := .ordinary
  loader := none
  accessFlags := 33
  super := sup
  interfaces := #[]
  cf := none
  fields := #[]
  methods := #[]
  instanceTypes := #[]
  staticTypes := #[]
  resolved := #[]
  callSites := []
  init := .initialized
  statics := none
  mirror := none

def pool0 : Array CpInfo := pool [(5, u "<init>"), (0, u "()V"), (1, .class_ 10), (1, u "java/lang/Object")] 113

def k0c0 : Code := { maxStack := 0, maxLocals := 1, code := object_method_1_code, exceptionTable := #[], attributes := #[] }
def k0m0 : Method := { name := "<init>", desc := "()V", sig := { parameters := [], returnType := none }, accessFlags := 1, code := some k0c0 }
/-- java/lang/Object -/
def k0 : Class := { plain "java/lang/Object" none with
  accessFlags := 33
  interfaces := #[]
  cf := some (fileOf pool0 8 #[] #[{ accessFlags := 1, nameIndex := 5, descriptorIndex := 6, attributes := #[] }] 33 0 #[] #[])
  fields := #[]
  methods := #[k0m0]
  instanceTypes := #[]
  staticTypes := #[]
  resolved := Array.replicate 124 none
  statics := none }

def pool1 : Array CpInfo := pool [(2, .class_ 4), (1, u "java/lang/Object"), (0, u "<init>"), (0, u "()V"), (0, .class_ 8), (0, u "java/lang/String"), (0, .methodref 7 10), (0, .nameAndType 5 11), (0, u "([C)V"), (0, .fieldref 13 14), (0, .class_ 15), (0, .nameAndType 16 17), (0, u "com/example/ocotillo/ocotillo/core/FeedProblem$Code"), (0, u "NO_REQUIREMENT"), (0, u "Lcom/example/ocotillo/ocotillo/core/FeedProblem$Code;"), (0, .fieldref 13 19), (0, .nameAndType 20 17), (0, u "SEVERAL_REQUIREMENTS"), (0, .fieldref 13 22), (0, .nameAndType 23 17), (0, u "NO_CATEGORY"), (0, .fieldref 13 25), (0, .nameAndType 26 17), (0, u "UNKNOWN_CATEGORY"), (0, .fieldref 13 28), (0, .nameAndType 29 17), (0, u "NO_TIME_ZONE"), (0, .fieldref 13 31), (0, .nameAndType 32 17), (0, u "BAD_DATE"), (0, .fieldref 13 34), (0, .nameAndType 35 17), (0, u "ENDS_BEFORE_STARTS"), (0, .fieldref 13 37), (0, .nameAndType 38 17), (0, u "UNKNOWN_REGION"), (0, .fieldref 13 40), (0, .nameAndType 41 17), (0, u "UNKNOWN_SUBSCRIPTION"), (0, .fieldref 13 43), (0, .nameAndType 44 17), (0, u "NO_IDENTIFIER"), (0, .fieldref 13 46), (0, .nameAndType 47 17), (0, u "SUBSCRIPTION_WITHOUT_PACKAGE"), (0, .methodref 49 50), (0, .class_ 51), (0, .nameAndType 52 53), (0, u "com/example/ocotillo/ocotillo/core/FeedProblemEqualsPinLaw"), (0, u "mk"), (0, u "(ICCC)Ljava/lang/String;"), (0, .class_ 55), (0, u "com/example/ocotillo/ocotillo/core/FeedProblem"), (0, .methodref 49 57), (0, .nameAndType 58 59), (0, u "code"), (0, u "(I)Lcom/example/ocotillo/ocotillo/core/FeedProblem$Code;"), (0, .methodref 54 61), (0, .nameAndType 5 62), (0, u "(Ljava/lang/String;Lcom/example/ocotillo/ocotillo/core/FeedProblem$Code;)V"), (0, .methodref 54 64), (0, .nameAndType 65 66), (0, u "equals"), (0, u "(Ljava/lang/Object;)Z"), (3, u "law"), (0, u "(IIIII)Z")] 3

def k1m0 : Method := { name := "<init>", desc := "()V", sig := { parameters := [], returnType := none }, accessFlags := 1, code := none }
def k1c1 : Code := { maxStack := 6, maxLocals := 4, code := method_2_code, exceptionTable := #[], attributes := #[] }
def k1m1 : Method := { name := "mk", desc := "(ICCC)Ljava/lang/String;", sig := { parameters := [.int, .char, .char, .char], returnType := some (.object "java/lang/String") }, accessFlags := 10, code := some k1c1 }
def k1c2 : Code := { maxStack := 2, maxLocals := 1, code := method_3_code, exceptionTable := #[], attributes := #[] }
def k1m2 : Method := { name := "code", desc := "(I)Lcom/example/ocotillo/ocotillo/core/FeedProblem$Code;", sig := { parameters := [.int], returnType := some (.object "com/example/ocotillo/ocotillo/core/FeedProblem$Code") }, accessFlags := 10, code := some k1c2 }
def k1c3 : Code := { maxStack := 4, maxLocals := 24, code := code, exceptionTable := #[], attributes := #[] }
def k1m3 : Method := { name := "law", desc := "(IIIII)Z", sig := { parameters := [.int, .int, .int, .int, .int], returnType := some .boolean }, accessFlags := 9, code := some k1c3 }
/-- com/example/ocotillo/ocotillo/core/FeedProblemEqualsPinLaw -/
def k1 : Class := { plain "com/example/ocotillo/ocotillo/core/FeedProblemEqualsPinLaw" (some 0) with
  accessFlags := 49
  interfaces := #[]
  cf := some (fileOf pool1 49 #[] #[{ accessFlags := 1, nameIndex := 5, descriptorIndex := 6, attributes := #[] }, { accessFlags := 10, nameIndex := 52, descriptorIndex := 53, attributes := #[] }, { accessFlags := 10, nameIndex := 58, descriptorIndex := 59, attributes := #[] }, { accessFlags := 9, nameIndex := 70, descriptorIndex := 71, attributes := #[] }] 49 2 #[] #[])
  fields := #[]
  methods := #[k1m0, k1m1, k1m2, k1m3]
  instanceTypes := #[]
  staticTypes := #[]
  resolved := Array.replicate 75 none
  statics := none }

def pool2 : Array CpInfo := pool [(1, .class_ 2), (0, u "java/io/Serializable"), (0, .class_ 4), (0, u "java/lang/Object")] 2

/-- java/io/Serializable -/
def k2 : Class := { plain "java/io/Serializable" (some 0) with
  accessFlags := 1537
  interfaces := #[]
  cf := some (fileOf pool2 1 #[] #[] 1537 3 #[] #[])
  fields := #[]
  methods := #[]
  instanceTypes := #[]
  staticTypes := #[]
  resolved := Array.replicate 7 none
  statics := none }

def pool3 : Array CpInfo := pool [(1, .class_ 2), (0, u "java/lang/Comparable"), (0, .class_ 4), (0, u "java/lang/Object")] 7

/-- java/lang/Comparable -/
def k3 : Class := { plain "java/lang/Comparable" (some 0) with
  accessFlags := 1537
  interfaces := #[]
  cf := some (fileOf pool3 1 #[] #[] 1537 3 #[] #[])
  fields := #[]
  methods := #[]
  instanceTypes := #[]
  staticTypes := #[]
  resolved := Array.replicate 12 none
  statics := none }

def pool4 : Array CpInfo := pool [(2, .class_ 4), (1, u "java/lang/CharSequence"), (42, .class_ 48), (0, u "java/lang/CharSequence$1CodePointIterator"), (10, .class_ 60), (0, u "java/lang/CharSequence$1CharIterator"), (5, .class_ 67), (0, u "java/lang/Object")] 63

/-- java/lang/CharSequence -/
def k4 : Class := { plain "java/lang/CharSequence" (some 0) with
  accessFlags := 1537
  interfaces := #[]
  cf := some (fileOf pool4 2 #[.nestMembers #[47, 59]] #[] 1537 66 #[] #[])
  fields := #[]
  methods := #[]
  instanceTypes := #[]
  staticTypes := #[]
  resolved := Array.replicate 131 none
  statics := none }

def pool5 : Array CpInfo := pool [(1, .class_ 2), (0, u "java/lang/constant/Constable"), (0, .class_ 4), (0, u "java/lang/Object")] 6

/-- java/lang/constant/Constable -/
def k5 : Class := { plain "java/lang/constant/Constable" (some 0) with
  accessFlags := 1537
  interfaces := #[]
  cf := some (fileOf pool5 1 #[] #[] 1537 3 #[] #[])
  fields := #[]
  methods := #[]
  instanceTypes := #[]
  staticTypes := #[]
  resolved := Array.replicate 11 none
  statics := none }

def pool6 : Array CpInfo := pool [(1, .class_ 2), (0, u "java/lang/constant/ConstantDesc"), (0, .class_ 4), (0, u "java/lang/Object")] 32

/-- java/lang/constant/ConstantDesc -/
def k6 : Class := { plain "java/lang/constant/ConstantDesc" (some 0) with
  accessFlags := 1537
  interfaces := #[]
  cf := some (fileOf pool6 1 #[] #[] 1537 3 #[] #[])
  fields := #[]
  methods := #[]
  instanceTypes := #[]
  staticTypes := #[]
  resolved := Array.replicate 37 none
  statics := none }

def pool7 : Array CpInfo := pool [(1, .methodref 2 3), (0, .class_ 4), (0, .nameAndType 5 6), (0, u "java/lang/Object"), (0, u "<init>"), (0, u "()V"), (0, .string 8), (0, u ""), (0, .fieldref 10 11), (0, .class_ 12), (0, .nameAndType 13 14), (0, u "java/lang/String"), (0, u "value"), (0, u "[B"), (0, .fieldref 10 16), (0, .nameAndType 17 18), (0, u "coder"), (0, u "B"), (2, u "hash"), (0, u "I"), (2, u "hashIsZero"), (0, u "Z"), (0, .methodref 10 28), (0, .nameAndType 5 29), (0, u "([CIILjava/lang/Void;)V"), (8, .fieldref 10 39), (0, .nameAndType 40 26), (0, u "COMPACT_STRINGS"), (1, .class_ 44), (1, u "java/lang/StringUTF16"), (0, u "compress"), (1, .methodref 42 48), (0, .nameAndType 49 50), (0, u "coderFromArrayLen"), (0, u "([BI)B"), (56, .class_ 109), (1, u "java/lang/StringLatin1"), (67, .methodref 42 178), (0, .nameAndType 45 179), (0, u "([CII)[B"), (361, .methodref 107 542), (0, .nameAndType 543 544), (0, u "equals"), (0, u "([B[B)Z"), (28, u "(Ljava/lang/Object;)Z"), (1, .class_ 576), (0, u "java/lang/CharSequence"), (22, u "CASE_INSENSITIVE_ORDER"), (0, u "Ljava/util/Comparator;"), (409, u "([C)V"), (90, u "serialPersistentFields"), (0, u "[Ljava/io/ObjectStreamField;"), (0, .class_ 1104), (0, u "java/lang/String$CaseInsensitiveComparator"), (1, .class_ 1107), (0, u "java/io/Serializable"), (0, .class_ 1109), (0, u "java/lang/Comparable"), (0, .class_ 1111), (0, u "java/lang/constant/Constable"), (0, .class_ 1113), (0, u "java/lang/constant/ConstantDesc"), (2, u "serialVersionUID"), (0, u "J"), (3, u "REPL"), (0, u "C"), (2, u "LATIN1"), (1, u "UTF16")] 323

def k7m0 : Method := { name := "<init>", desc := "()V", sig := { parameters := [], returnType := none }, accessFlags := 1, code := none }
def k7c1 : Code := { maxStack := 5, maxLocals := 2, code := jdk_42_method_3_code, exceptionTable := #[], attributes := #[] }
def k7m1 : Method := { name := "<init>", desc := "([C)V", sig := { parameters := [(.array .char)], returnType := none }, accessFlags := 1, code := some k7c1 }
def k7c2 : Code := { maxStack := 2, maxLocals := 3, code := jdk_42_method_66_code, exceptionTable := #[], attributes := #[] }
def k7m2 : Method := { name := "equals", desc := "(Ljava/lang/Object;)Z", sig := { parameters := [(.object "java/lang/Object")], returnType := some .boolean }, accessFlags := 1, code := some k7c2 }
def k7c3 : Code := { maxStack := 4, maxLocals := 6, code := jdk_42_method_149_code, exceptionTable := #[], attributes := #[] }
def k7m3 : Method := { name := "<init>", desc := "([CIILjava/lang/Void;)V", sig := { parameters := [(.array .char), .int, .int, (.object "java/lang/Void")], returnType := none }, accessFlags := 2, code := some k7c3 }
/-- java/lang/String -/
def k7 : Class := { plain "java/lang/String" (some 0) with
  accessFlags := 49
  interfaces := #[2, 3, 4, 5, 6]
  cf := some (fileOf pool7 10 #[.nestMembers #[1103]] #[{ accessFlags := 1, nameIndex := 5, descriptorIndex := 6, attributes := #[] }, { accessFlags := 1, nameIndex := 5, descriptorIndex := 1010, attributes := #[] }, { accessFlags := 1, nameIndex := 543, descriptorIndex := 573, attributes := #[] }, { accessFlags := 2, nameIndex := 5, descriptorIndex := 29, attributes := #[] }] 49 2 #[1106, 1108, 575, 1110, 1112] #[{ accessFlags := 18, nameIndex := 13, descriptorIndex := 14, attributes := #[] }, { accessFlags := 18, nameIndex := 17, descriptorIndex := 18, attributes := #[] }, { accessFlags := 2, nameIndex := 21, descriptorIndex := 22, attributes := #[] }, { accessFlags := 2, nameIndex := 25, descriptorIndex := 26, attributes := #[] }, { accessFlags := 26, nameIndex := 1116, descriptorIndex := 1117, attributes := #[] }, { accessFlags := 24, nameIndex := 40, descriptorIndex := 26, attributes := #[] }, { accessFlags := 26, nameIndex := 1101, descriptorIndex := 1102, attributes := #[] }, { accessFlags := 26, nameIndex := 1121, descriptorIndex := 1122, attributes := #[] }, { accessFlags := 25, nameIndex := 599, descriptorIndex := 600, attributes := #[] }, { accessFlags := 24, nameIndex := 1125, descriptorIndex := 18, attributes := #[] }, { accessFlags := 24, nameIndex := 1127, descriptorIndex := 18, attributes := #[] }])
  fields := #[{ name := "value", type := (.array .byte), accessFlags := 18, slot := 0, constantValue := 0 }, { name := "coder", type := .byte, accessFlags := 18, slot := 1, constantValue := 0 }, { name := "hash", type := .int, accessFlags := 2, slot := 2, constantValue := 0 }, { name := "hashIsZero", type := .boolean, accessFlags := 2, slot := 3, constantValue := 0 }, { name := "serialVersionUID", type := .long, accessFlags := 26, slot := 0, constantValue := 0 }, { name := "COMPACT_STRINGS", type := .boolean, accessFlags := 24, slot := 1, constantValue := 0 }, { name := "serialPersistentFields", type := (.array (.object "java/io/ObjectStreamField")), accessFlags := 26, slot := 2, constantValue := 0 }, { name := "REPL", type := .char, accessFlags := 26, slot := 3, constantValue := 0 }, { name := "CASE_INSENSITIVE_ORDER", type := (.object "java/util/Comparator"), accessFlags := 25, slot := 4, constantValue := 0 }, { name := "LATIN1", type := .byte, accessFlags := 24, slot := 5, constantValue := 0 }, { name := "UTF16", type := .byte, accessFlags := 24, slot := 6, constantValue := 0 }]
  methods := #[k7m0, k7m1, k7m2, k7m3]
  instanceTypes := #[(.array .byte), .byte, .int, .boolean]
  staticTypes := #[.long, .boolean, (.array (.object "java/io/ObjectStreamField")), .char, (.object "java/util/Comparator"), .byte, .byte]
  resolved := Array.replicate 1451 none
  statics := some 0 }

def pool8 : Array CpInfo := pool [(1, .methodref 2 3), (0, .class_ 4), (0, .nameAndType 5 6), (0, u "java/lang/Object"), (0, u "<init>"), (0, u "()V"), (0, .fieldref 8 9), (0, .class_ 10), (0, .nameAndType 11 12), (0, u "com/example/ocotillo/ocotillo/core/FeedProblem"), (0, u "title"), (0, u "Ljava/lang/String;"), (0, .fieldref 8 14), (0, .nameAndType 15 16), (0, u "code"), (0, u "Lcom/example/ocotillo/ocotillo/core/FeedProblem$Code;"), (0, .methodref 18 19), (0, .class_ 20), (0, .nameAndType 21 22), (0, u "java/lang/String"), (0, u "equals"), (0, u "(Ljava/lang/Object;)Z"), (6, u "(Ljava/lang/String;Lcom/example/ocotillo/ocotillo/core/FeedProblem$Code;)V"), (10, .class_ 41), (0, u "com/example/ocotillo/ocotillo/core/FeedProblem$Code")] 1

def k8c0 : Code := { maxStack := 2, maxLocals := 3, code := prog_1_method_1_code, exceptionTable := #[], attributes := #[] }
def k8m0 : Method := { name := "<init>", desc := "(Ljava/lang/String;Lcom/example/ocotillo/ocotillo/core/FeedProblem$Code;)V", sig := { parameters := [(.object "java/lang/String"), (.object "com/example/ocotillo/ocotillo/core/FeedProblem$Code")], returnType := none }, accessFlags := 0, code := some k8c0 }
def k8c1 : Code := { maxStack := 2, maxLocals := 2, code := prog_1_method_4_code, exceptionTable := #[], attributes := #[] }
def k8m1 : Method := { name := "equals", desc := "(Ljava/lang/Object;)Z", sig := { parameters := [(.object "java/lang/Object")], returnType := some .boolean }, accessFlags := 1, code := some k8c1 }
/-- com/example/ocotillo/ocotillo/core/FeedProblem -/
def k8 : Class := { plain "com/example/ocotillo/ocotillo/core/FeedProblem" (some 0) with
  accessFlags := 49
  interfaces := #[]
  cf := some (fileOf pool8 8 #[.nestMembers #[40]] #[{ accessFlags := 0, nameIndex := 5, descriptorIndex := 29, attributes := #[] }, { accessFlags := 1, nameIndex := 21, descriptorIndex := 22, attributes := #[] }] 49 2 #[] #[{ accessFlags := 18, nameIndex := 11, descriptorIndex := 12, attributes := #[] }, { accessFlags := 18, nameIndex := 15, descriptorIndex := 16, attributes := #[] }])
  fields := #[{ name := "title", type := (.object "java/lang/String"), accessFlags := 18, slot := 0, constantValue := 0 }, { name := "code", type := (.object "com/example/ocotillo/ocotillo/core/FeedProblem$Code"), accessFlags := 18, slot := 1, constantValue := 0 }]
  methods := #[k8m0, k8m1]
  instanceTypes := #[(.object "java/lang/String"), (.object "com/example/ocotillo/ocotillo/core/FeedProblem$Code")]
  staticTypes := #[]
  resolved := Array.replicate 43 none
  statics := none }

def pool9 : Array CpInfo := pool [(2, .class_ 4), (1, u "java/lang/Enum"), (0, u "name"), (0, u "Ljava/lang/String;"), (2, u "ordinal"), (0, u "I"), (1, .class_ 14), (1, u "java/lang/Object"), (4, u "hash"), (86, .class_ 108), (1, u "java/lang/Enum$EnumDesc"), (2, .class_ 112), (0, u "java/lang/constant/Constable"), (0, .class_ 114), (0, u "java/lang/Comparable"), (0, .class_ 116), (0, u "java/io/Serializable")] 87

/-- java/lang/Enum -/
def k9 : Class := { plain "java/lang/Enum" (some 0) with
  accessFlags := 1057
  interfaces := #[5, 3, 2]
  cf := some (fileOf pool9 2 #[.nestMembers #[106]] #[] 1057 12 #[111, 113, 115] #[{ accessFlags := 18, nameIndex := 5, descriptorIndex := 6, attributes := #[] }, { accessFlags := 18, nameIndex := 9, descriptorIndex := 10, attributes := #[] }, { accessFlags := 2, nameIndex := 19, descriptorIndex := 10, attributes := #[] }])
  fields := #[{ name := "name", type := (.object "java/lang/String"), accessFlags := 18, slot := 0, constantValue := 0 }, { name := "ordinal", type := .int, accessFlags := 18, slot := 1, constantValue := 0 }, { name := "hash", type := .int, accessFlags := 2, slot := 2, constantValue := 0 }]
  methods := #[]
  instanceTypes := #[(.object "java/lang/String"), .int, .int]
  staticTypes := #[]
  resolved := Array.replicate 204 none
  statics := none }

def pool10 : Array CpInfo := pool [(1, .class_ 2), (0, u "com/example/ocotillo/ocotillo/core/FeedProblem$Code"), (2, u "NO_REQUIREMENT"), (0, u "Lcom/example/ocotillo/ocotillo/core/FeedProblem$Code;"), (2, u "SEVERAL_REQUIREMENTS"), (2, u "NO_CATEGORY"), (2, u "UNKNOWN_CATEGORY"), (2, u "NO_TIME_ZONE"), (2, u "BAD_DATE"), (2, u "ENDS_BEFORE_STARTS"), (2, u "UNKNOWN_REGION"), (2, u "UNKNOWN_SUBSCRIPTION"), (2, u "NO_IDENTIFIER"), (2, u "SUBSCRIPTION_WITHOUT_PACKAGE"), (2, u "$VALUES"), (0, u "[Lcom/example/ocotillo/ocotillo/core/FeedProblem$Code;"), (6, .class_ 49), (1, u "java/lang/Enum"), (8, u "written"), (0, u "Ljava/lang/String;"), (54, .class_ 115), (0, u "com/example/ocotillo/ocotillo/core/FeedProblem")] 1

/-- com/example/ocotillo/ocotillo/core/FeedProblem$Code -/
def k10 : Class := { plain "com/example/ocotillo/ocotillo/core/FeedProblem$Code" (some 9) with
  accessFlags := 16433
  interfaces := #[]
  cf := some (fileOf pool10 1 #[.nestHost 114] #[] 16433 47 #[] #[{ accessFlags := 16409, nameIndex := 5, descriptorIndex := 6, attributes := #[] }, { accessFlags := 16409, nameIndex := 9, descriptorIndex := 6, attributes := #[] }, { accessFlags := 16409, nameIndex := 12, descriptorIndex := 6, attributes := #[] }, { accessFlags := 16409, nameIndex := 15, descriptorIndex := 6, attributes := #[] }, { accessFlags := 16409, nameIndex := 18, descriptorIndex := 6, attributes := #[] }, { accessFlags := 16409, nameIndex := 21, descriptorIndex := 6, attributes := #[] }, { accessFlags := 16409, nameIndex := 24, descriptorIndex := 6, attributes := #[] }, { accessFlags := 16409, nameIndex := 27, descriptorIndex := 6, attributes := #[] }, { accessFlags := 16409, nameIndex := 30, descriptorIndex := 6, attributes := #[] }, { accessFlags := 16409, nameIndex := 33, descriptorIndex := 6, attributes := #[] }, { accessFlags := 16409, nameIndex := 36, descriptorIndex := 6, attributes := #[] }, { accessFlags := 18, nameIndex := 58, descriptorIndex := 59, attributes := #[] }, { accessFlags := 4122, nameIndex := 39, descriptorIndex := 40, attributes := #[] }])
  fields := #[{ name := "NO_REQUIREMENT", type := (.object "com/example/ocotillo/ocotillo/core/FeedProblem$Code"), accessFlags := 16409, slot := 0, constantValue := 0 }, { name := "SEVERAL_REQUIREMENTS", type := (.object "com/example/ocotillo/ocotillo/core/FeedProblem$Code"), accessFlags := 16409, slot := 1, constantValue := 0 }, { name := "NO_CATEGORY", type := (.object "com/example/ocotillo/ocotillo/core/FeedProblem$Code"), accessFlags := 16409, slot := 2, constantValue := 0 }, { name := "UNKNOWN_CATEGORY", type := (.object "com/example/ocotillo/ocotillo/core/FeedProblem$Code"), accessFlags := 16409, slot := 3, constantValue := 0 }, { name := "NO_TIME_ZONE", type := (.object "com/example/ocotillo/ocotillo/core/FeedProblem$Code"), accessFlags := 16409, slot := 4, constantValue := 0 }, { name := "BAD_DATE", type := (.object "com/example/ocotillo/ocotillo/core/FeedProblem$Code"), accessFlags := 16409, slot := 5, constantValue := 0 }, { name := "ENDS_BEFORE_STARTS", type := (.object "com/example/ocotillo/ocotillo/core/FeedProblem$Code"), accessFlags := 16409, slot := 6, constantValue := 0 }, { name := "UNKNOWN_REGION", type := (.object "com/example/ocotillo/ocotillo/core/FeedProblem$Code"), accessFlags := 16409, slot := 7, constantValue := 0 }, { name := "UNKNOWN_SUBSCRIPTION", type := (.object "com/example/ocotillo/ocotillo/core/FeedProblem$Code"), accessFlags := 16409, slot := 8, constantValue := 0 }, { name := "NO_IDENTIFIER", type := (.object "com/example/ocotillo/ocotillo/core/FeedProblem$Code"), accessFlags := 16409, slot := 9, constantValue := 0 }, { name := "SUBSCRIPTION_WITHOUT_PACKAGE", type := (.object "com/example/ocotillo/ocotillo/core/FeedProblem$Code"), accessFlags := 16409, slot := 10, constantValue := 0 }, { name := "written", type := (.object "java/lang/String"), accessFlags := 18, slot := 3, constantValue := 0 }, { name := "$VALUES", type := (.array (.object "com/example/ocotillo/ocotillo/core/FeedProblem$Code")), accessFlags := 4122, slot := 11, constantValue := 0 }]
  methods := #[]
  instanceTypes := #[(.object "java/lang/String"), .int, .int, (.object "java/lang/String")]
  staticTypes := #[(.object "com/example/ocotillo/ocotillo/core/FeedProblem$Code"), (.object "com/example/ocotillo/ocotillo/core/FeedProblem$Code"), (.object "com/example/ocotillo/ocotillo/core/FeedProblem$Code"), (.object "com/example/ocotillo/ocotillo/core/FeedProblem$Code"), (.object "com/example/ocotillo/ocotillo/core/FeedProblem$Code"), (.object "com/example/ocotillo/ocotillo/core/FeedProblem$Code"), (.object "com/example/ocotillo/ocotillo/core/FeedProblem$Code"), (.object "com/example/ocotillo/ocotillo/core/FeedProblem$Code"), (.object "com/example/ocotillo/ocotillo/core/FeedProblem$Code"), (.object "com/example/ocotillo/ocotillo/core/FeedProblem$Code"), (.object "com/example/ocotillo/ocotillo/core/FeedProblem$Code"), (.array (.object "com/example/ocotillo/ocotillo/core/FeedProblem$Code"))]
  resolved := Array.replicate 117 none
  statics := some 1 }

def pool11 : Array CpInfo := pool [(4, .class_ 6), (1, u "java/lang/Object"), (0, u "<init>"), (0, u "()V"), (5, .class_ 16), (1, u "java/lang/StringLatin1"), (104, u "$assertionsDisabled"), (0, u "Z"), (98, .class_ 223), (1, u "java/lang/StringLatin1$LinesSpliterator"), (57, u "equals"), (0, u "([B[B)Z"), (107, .class_ 391), (0, u "java/lang/StringLatin1$CharsSpliterator")] 3

def k11m0 : Method := { name := "<init>", desc := "()V", sig := { parameters := [], returnType := none }, accessFlags := 0, code := none }
def k11c1 : Code := { maxStack := 3, maxLocals := 3, code := jdk_43_method_13_code, exceptionTable := #[], attributes := #[] }
def k11m1 : Method := { name := "equals", desc := "([B[B)Z", sig := { parameters := [(.array .byte), (.array .byte)], returnType := some .boolean }, accessFlags := 9, code := some k11c1 }
/-- java/lang/StringLatin1 -/
def k11 : Class := { plain "java/lang/StringLatin1" (some 0) with
  accessFlags := 48
  interfaces := #[]
  cf := some (fileOf pool11 14 #[.nestMembers #[390, 221]] #[{ accessFlags := 0, nameIndex := 7, descriptorIndex := 8, attributes := #[] }, { accessFlags := 9, nameIndex := 281, descriptorIndex := 282, attributes := #[] }] 48 4 #[] #[{ accessFlags := 4120, nameIndex := 121, descriptorIndex := 122, attributes := #[] }])
  fields := #[{ name := "$assertionsDisabled", type := .boolean, accessFlags := 4120, slot := 0, constantValue := 0 }]
  methods := #[k11m0, k11m1]
  instanceTypes := #[]
  staticTypes := #[.boolean]
  resolved := Array.replicate 395 none
  statics := none }

def pool12 : Array CpInfo := pool [(6, .class_ 8), (1, u "java/lang/Object"), (0, u "<init>"), (0, u "()V"), (1, .class_ 14), (1, u "java/lang/StringUTF16"), (31, u "$assertionsDisabled"), (0, u "Z"), (13, u "HI_BYTE_SHIFT"), (0, u "I"), (2, u "LO_BYTE_SHIFT"), (49, .methodref 12 116), (0, .nameAndType 117 118), (0, u "compress"), (0, u "([CI[BII)I"), (3, u "([CII)[B"), (138, u "coderFromArrayLen"), (0, u "([BI)B"), (106, .class_ 371), (1, u "java/lang/StringUTF16$LinesSpliterator"), (58, u "MAX_LENGTH"), (196, .class_ 628), (0, u "java/lang/StringUTF16$CodePointsSpliterator"), (0, .class_ 630), (0, u "java/lang/StringUTF16$CharsSpliterator")] 4

def k12m0 : Method := { name := "<init>", desc := "()V", sig := { parameters := [], returnType := none }, accessFlags := 0, code := none }
def k12c1 : Code := { maxStack := 2, maxLocals := 2, code := jdk_52_method_15_code, exceptionTable := #[], attributes := #[] }
def k12m1 : Method := { name := "coderFromArrayLen", desc := "([BI)B", sig := { parameters := [(.array .byte), .int], returnType := some .byte }, accessFlags := 8, code := some k12c1 }
def k12c2 : Code := { maxStack := 5, maxLocals := 6, code := jdk_52_method_16_code, exceptionTable := #[], attributes := #[] }
def k12m2 : Method := { name := "compress", desc := "([CII)[B", sig := { parameters := [(.array .char), .int, .int], returnType := some (.array .byte) }, accessFlags := 9, code := some k12c2 }
def k12c3 : Code := { maxStack := 3, maxLocals := 7, code := jdk_52_method_21_code, exceptionTable := #[], attributes := #[] }
def k12m3 : Method := { name := "compress", desc := "([CI[BII)I", sig := { parameters := [(.array .char), .int, (.array .byte), .int, .int], returnType := some .int }, accessFlags := 9, code := some k12c3 }
/-- java/lang/StringUTF16 -/
def k12 : Class := { plain "java/lang/StringUTF16" (some 0) with
  accessFlags := 48
  interfaces := #[]
  cf := some (fileOf pool12 12 #[.nestMembers #[627, 629, 369]] #[{ accessFlags := 0, nameIndex := 9, descriptorIndex := 10, attributes := #[] }, { accessFlags := 8, nameIndex := 261, descriptorIndex := 262, attributes := #[] }, { accessFlags := 9, nameIndex := 117, descriptorIndex := 122, attributes := #[] }, { accessFlags := 9, nameIndex := 117, descriptorIndex := 118, attributes := #[] }] 48 6 #[] #[{ accessFlags := 26, nameIndex := 61, descriptorIndex := 62, attributes := #[] }, { accessFlags := 26, nameIndex := 65, descriptorIndex := 62, attributes := #[] }, { accessFlags := 24, nameIndex := 430, descriptorIndex := 62, attributes := #[] }, { accessFlags := 4120, nameIndex := 46, descriptorIndex := 47, attributes := #[] }])
  fields := #[{ name := "HI_BYTE_SHIFT", type := .int, accessFlags := 26, slot := 0, constantValue := 0 }, { name := "LO_BYTE_SHIFT", type := .int, accessFlags := 26, slot := 1, constantValue := 0 }, { name := "MAX_LENGTH", type := .int, accessFlags := 24, slot := 2, constantValue := 0 }, { name := "$assertionsDisabled", type := .boolean, accessFlags := 4120, slot := 3, constantValue := 0 }]
  methods := #[k12m0, k12m1, k12m2, k12m3]
  instanceTypes := #[]
  staticTypes := #[.int, .int, .int, .boolean]
  resolved := Array.replicate 635 none
  statics := none }

def pool13 : Array CpInfo := pool [(2, .class_ 4), (1, u "java/lang/Object"), (0, u "<init>"), (0, u "()V"), (17, .class_ 26), (1, u "jdk/internal/util/Preconditions"), (28, .class_ 56), (0, u "jdk/internal/util/Preconditions$4"), (57, .class_ 115), (0, u "jdk/internal/util/Preconditions$1"), (7, u "SIOOBE_FORMATTER"), (0, u "Ljava/util/function/BiFunction;"), (0, .class_ 126), (0, u "jdk/internal/util/Preconditions$2"), (3, u "AIOOBE_FORMATTER"), (0, .class_ 132), (0, u "jdk/internal/util/Preconditions$3"), (3, u "IOOBE_FORMATTER")] 57

def k13m0 : Method := { name := "<init>", desc := "()V", sig := { parameters := [], returnType := none }, accessFlags := 1, code := none }
/-- jdk/internal/util/Preconditions -/
def k13 : Class := { plain "jdk/internal/util/Preconditions" (some 0) with
  accessFlags := 33
  interfaces := #[]
  cf := some (fileOf pool13 24 #[.nestMembers #[55, 131, 125, 114]] #[{ accessFlags := 1, nameIndex := 5, descriptorIndex := 6, attributes := #[] }] 33 2 #[] #[{ accessFlags := 25, nameIndex := 123, descriptorIndex := 124, attributes := #[] }, { accessFlags := 25, nameIndex := 130, descriptorIndex := 124, attributes := #[] }, { accessFlags := 25, nameIndex := 136, descriptorIndex := 124, attributes := #[] }])
  fields := #[{ name := "SIOOBE_FORMATTER", type := (.object "java/util/function/BiFunction"), accessFlags := 25, slot := 0, constantValue := 0 }, { name := "AIOOBE_FORMATTER", type := (.object "java/util/function/BiFunction"), accessFlags := 25, slot := 1, constantValue := 0 }, { name := "IOOBE_FORMATTER", type := (.object "java/util/function/BiFunction"), accessFlags := 25, slot := 2, constantValue := 0 }]
  methods := #[k13m0]
  instanceTypes := #[]
  staticTypes := #[(.object "java/util/function/BiFunction"), (.object "java/util/function/BiFunction"), (.object "java/util/function/BiFunction")]
  resolved := Array.replicate 194 none
  statics := some 2 }

def pool14 : Array CpInfo := pool [(9, u "<init>"), (6, .class_ 18), (1, u "java/lang/Object"), (0, u "()V"), (1, .class_ 23), (1, u "jdk/internal/util/ArraysSupport"), (0, u "LOG2_ARRAY_LONG_INDEX_SCALE"), (0, u "I"), (2, u "U"), (0, u "Ljdk/internal/misc/Unsafe;"), (8, u "BIG_ENDIAN"), (0, u "Z"), (8, u "LOG2_BYTE_BIT_SIZE"), (4, u "LOG2_ARRAY_INT_INDEX_SCALE"), (54, u "JLA"), (0, u "Ljdk/internal/access/JavaLangAccess;"), (11, u "LOG2_ARRAY_BOOLEAN_INDEX_SCALE"), (9, u "LOG2_ARRAY_BYTE_INDEX_SCALE"), (5, u "LOG2_ARRAY_CHAR_INDEX_SCALE"), (5, u "LOG2_ARRAY_SHORT_INDEX_SCALE"), (18, u "LOG2_ARRAY_FLOAT_INDEX_SCALE"), (24, u "LOG2_ARRAY_DOUBLE_INDEX_SCALE"), (89, u "T_BOOLEAN"), (2, u "T_CHAR"), (1, u "T_FLOAT"), (1, u "T_DOUBLE"), (1, u "T_BYTE"), (1, u "T_SHORT"), (1, u "T_INT"), (1, u "T_LONG"), (1, u "SOFT_MAX_ARRAY_LENGTH")] 83

def k14m0 : Method := { name := "<init>", desc := "()V", sig := { parameters := [], returnType := none }, accessFlags := 2, code := none }
/-- jdk/internal/util/ArraysSupport -/
def k14 : Class := { plain "jdk/internal/util/ArraysSupport" (some 0) with
  accessFlags := 33
  interfaces := #[]
  cf := some (fileOf pool14 21 #[] #[{ accessFlags := 2, nameIndex := 9, descriptorIndex := 19, attributes := #[] }] 33 16 #[] #[{ accessFlags := 24, nameIndex := 28, descriptorIndex := 29, attributes := #[] }, { accessFlags := 26, nameIndex := 38, descriptorIndex := 39, attributes := #[] }, { accessFlags := 25, nameIndex := 121, descriptorIndex := 25, attributes := #[] }, { accessFlags := 25, nameIndex := 131, descriptorIndex := 25, attributes := #[] }, { accessFlags := 25, nameIndex := 137, descriptorIndex := 25, attributes := #[] }, { accessFlags := 25, nameIndex := 143, descriptorIndex := 25, attributes := #[] }, { accessFlags := 25, nameIndex := 53, descriptorIndex := 25, attributes := #[] }, { accessFlags := 25, nameIndex := 24, descriptorIndex := 25, attributes := #[] }, { accessFlags := 25, nameIndex := 162, descriptorIndex := 25, attributes := #[] }, { accessFlags := 25, nameIndex := 187, descriptorIndex := 25, attributes := #[] }, { accessFlags := 26, nameIndex := 48, descriptorIndex := 25, attributes := #[] }, { accessFlags := 25, nameIndex := 277, descriptorIndex := 25, attributes := #[] }, { accessFlags := 25, nameIndex := 280, descriptorIndex := 25, attributes := #[] }, { accessFlags := 25, nameIndex := 282, descriptorIndex := 25, attributes := #[] }, { accessFlags := 25, nameIndex := 284, descriptorIndex := 25, attributes := #[] }, { accessFlags := 25, nameIndex := 286, descriptorIndex := 25, attributes := #[] }, { accessFlags := 25, nameIndex := 288, descriptorIndex := 25, attributes := #[] }, { accessFlags := 25, nameIndex := 290, descriptorIndex := 25, attributes := #[] }, { accessFlags := 25, nameIndex := 292, descriptorIndex := 25, attributes := #[] }, { accessFlags := 26, nameIndex := 108, descriptorIndex := 109, attributes := #[] }, { accessFlags := 25, nameIndex := 294, descriptorIndex := 25, attributes := #[] }])
  fields := #[{ name := "U", type := (.object "jdk/internal/misc/Unsafe"), accessFlags := 24, slot := 0, constantValue := 0 }, { name := "BIG_ENDIAN", type := .boolean, accessFlags := 26, slot := 1, constantValue := 0 }, { name := "LOG2_ARRAY_BOOLEAN_INDEX_SCALE", type := .int, accessFlags := 25, slot := 2, constantValue := 0 }, { name := "LOG2_ARRAY_BYTE_INDEX_SCALE", type := .int, accessFlags := 25, slot := 3, constantValue := 0 }, { name := "LOG2_ARRAY_CHAR_INDEX_SCALE", type := .int, accessFlags := 25, slot := 4, constantValue := 0 }, { name := "LOG2_ARRAY_SHORT_INDEX_SCALE", type := .int, accessFlags := 25, slot := 5, constantValue := 0 }, { name := "LOG2_ARRAY_INT_INDEX_SCALE", type := .int, accessFlags := 25, slot := 6, constantValue := 0 }, { name := "LOG2_ARRAY_LONG_INDEX_SCALE", type := .int, accessFlags := 25, slot := 7, constantValue := 0 }, { name := "LOG2_ARRAY_FLOAT_INDEX_SCALE", type := .int, accessFlags := 25, slot := 8, constantValue := 0 }, { name := "LOG2_ARRAY_DOUBLE_INDEX_SCALE", type := .int, accessFlags := 25, slot := 9, constantValue := 0 }, { name := "LOG2_BYTE_BIT_SIZE", type := .int, accessFlags := 26, slot := 10, constantValue := 0 }, { name := "T_BOOLEAN", type := .int, accessFlags := 25, slot := 11, constantValue := 0 }, { name := "T_CHAR", type := .int, accessFlags := 25, slot := 12, constantValue := 0 }, { name := "T_FLOAT", type := .int, accessFlags := 25, slot := 13, constantValue := 0 }, { name := "T_DOUBLE", type := .int, accessFlags := 25, slot := 14, constantValue := 0 }, { name := "T_BYTE", type := .int, accessFlags := 25, slot := 15, constantValue := 0 }, { name := "T_SHORT", type := .int, accessFlags := 25, slot := 16, constantValue := 0 }, { name := "T_INT", type := .int, accessFlags := 25, slot := 17, constantValue := 0 }, { name := "T_LONG", type := .int, accessFlags := 25, slot := 18, constantValue := 0 }, { name := "JLA", type := (.object "jdk/internal/access/JavaLangAccess"), accessFlags := 26, slot := 19, constantValue := 0 }, { name := "SOFT_MAX_ARRAY_LENGTH", type := .int, accessFlags := 25, slot := 20, constantValue := 0 }]
  methods := #[k14m0]
  instanceTypes := #[]
  staticTypes := #[(.object "jdk/internal/misc/Unsafe"), .boolean, .int, .int, .int, .int, .int, .int, .int, .int, .int, .int, .int, .int, .int, .int, .int, .int, .int, (.object "jdk/internal/access/JavaLangAccess"), .int]
  resolved := Array.replicate 378 none
  statics := none }

def pool15 : Array CpInfo := pool [(1, u "java/lang/Cloneable"), (0, .class_ 1), (0, u "java/lang/Object"), (0, .class_ 3)] 3

/-- java/lang/Cloneable -/
def k15 : Class := { plain "java/lang/Cloneable" (some 0) with
  accessFlags := 1537
  interfaces := #[]
  cf := some (fileOf pool15 2 #[] #[] 1537 4 #[] #[])
  fields := #[]
  methods := #[]
  instanceTypes := #[]
  staticTypes := #[]
  resolved := Array.replicate 8 none
  statics := none }

/-- the primitive byte -/
def k16 : Class := { plain "byte" none with kind := .primitive 'B', accessFlags := 0x411 }
/-- [B -/
def k17 : Class := { plain "[B" (some 0) with kind := .array 16 .byte, interfaces := #[15, 2], accessFlags := 1041 }

/-- the primitive char -/
def k18 : Class := { plain "char" none with kind := .primitive 'C', accessFlags := 0x411 }
/-- [C -/
def k19 : Class := { plain "[C" (some 0) with kind := .array 18 .char, interfaces := #[15, 2], accessFlags := 1041 }

/-- the primitive int -/
def k20 : Class := { plain "int" none with kind := .primitive 'I', accessFlags := 0x411 }
/-- [I -/
def k21 : Class := { plain "[I" (some 0) with kind := .array 20 .int, interfaces := #[15, 2], accessFlags := 1041 }

def heap : Heap := #[{ cls := 7, slots := #[.long 0, .int 1, .null, .int 0, .null, .int 0, .int 0], vm := .statics 7 },
  { cls := 10, slots := #[.ref 3, .ref 4, .ref 5, .ref 6, .ref 7, .ref 8, .ref 9, .ref 10, .ref 11, .ref 12, .ref 13, .null], vm := .statics 10 },
  { cls := 13, slots := #[.null, .null, .null], vm := .statics 13 },
  { cls := 10, slots := #[.null, .int 0, .int 0, .null], vm := .none },
  { cls := 10, slots := #[.null, .int 1, .int 0, .null], vm := .none },
  { cls := 10, slots := #[.null, .int 2, .int 0, .null], vm := .none },
  { cls := 10, slots := #[.null, .int 3, .int 0, .null], vm := .none },
  { cls := 10, slots := #[.null, .int 4, .int 0, .null], vm := .none },
  { cls := 10, slots := #[.null, .int 5, .int 0, .null], vm := .none },
  { cls := 10, slots := #[.null, .int 6, .int 0, .null], vm := .none },
  { cls := 10, slots := #[.null, .int 7, .int 0, .null], vm := .none },
  { cls := 10, slots := #[.null, .int 8, .int 0, .null], vm := .none },
  { cls := 10, slots := #[.null, .int 9, .int 0, .null], vm := .none },
  { cls := 10, slots := #[.null, .int 10, .int 0, .null], vm := .none }]
def classes : Array Class := #[k0, k1, k2, k3, k4, k5, k6, k7, k8, k9, k10, k11, k12, k13, k14, k15, k16, k17, k18, k19, k20, k21]
def interned : List (Array UInt16 × Addr) := []
def slotsUsed : Nat := 66
def theMethod : MethodId := ⟨1, 3⟩
def args0 : Array Value := #[.int 1, .int 5, .int 3, .int 9, .int 4]
def aboutOver (below : List Frame) : State where
  vm := { classes := classes, interned := interned.toArray }
  heap := heap
  slotsUsed := slotsUsed
  threads := #[{ frames := .invoking theMethod args0 :: below }]
def below0 : List Frame := [.native { method := ⟨0, 0⟩, args := #[] }]
def about1 : State := aboutOver below0
def p0 : Program := .bare "" "" ""
def e0 : Env := launch0.env 0 0 0
theorem w_frames : about1.frames = Frame.invoking theMethod args0 :: below0 := rfl
set_option maxRecDepth 65536 in
theorem w_args : argsFit about1.vm theMethod args0 = true := by decide +kernel
set_option maxRecDepth 65536 in
theorem w_heap : heapFits about1 = true := by decide +kernel
set_option maxRecDepth 65536 in
theorem w_runnable : about1.curStatus? = some .runnable := by decide +kernel
set_option maxRecDepth 65536 in
theorem w_alone : about1.alone = true := by decide +kernel
set_option maxRecDepth 65536 in
theorem w_named : about1.methodNamed? x = some theMethod := by decide +kernel
set_option maxRecDepth 65536 in
theorem w_hears : about1.hears theMethod below0 = true := by decide +kernel
set_option maxRecDepth 65536 in
theorem w_ripe : about1.ripe theMethod args0 below0 = true := by decide +kernel
theorem w_running : about1.status = .running := rfl
set_option maxRecDepth 65536 in
theorem w_room : about1.hasRoom e0.platform room_1 = true :=
  launch0.hasRoom_least _ room_1 (by decide +kernel) (by decide +kernel) (by decide +kernel) (by decide +kernel) (by decide +kernel) (by decide +kernel)
theorem allAtoms_all (ts : List Jvm.Cond) (a : Array Jvm.Value) (st : Jvm.State) : (allAtoms ts).before a st = ts.all (fun c => c.before a st) := by
  induction ts with
  | nil => rfl
  | cons c t ih =>
    show (Jvm.Cond.and c (allAtoms t)).before a st = _
    rw [Jvm.Cond.before_and, ih, List.all_cons]
def words1 : List Jvm.Cond := Jvm.Cond.code x code maxLocals ret :: tables_1
/-- a 'code' word, met by the world's own term for the bytes: nothing is compared byte by byte -/
theorem code_word {y : MethodName} {bytes : ByteArray} {mx : Nat} {rt : Option FieldType} {a : Array Value} {s : State} {m : MethodId} {meth : Method} {c : Code} (h1 : s.methodNamed? y = some m) (h2 : s.vm.method? m = some meth) (h3 : meth.code = some c) (h4 : c.code = bytes)
    (h5 : (c.maxLocals == mx && c.exceptionTable.isEmpty && decide (c.maxStack ≤ mostOperands) && decide (meth.sig.returnType = rt) && !meth.locks && decide (parseMethodDescriptor y.desc = some meth.sig)) = true) : (Jvm.Cond.code y bytes mx rt).before a s = true := by
  simp only [Bool.and_eq_true, beq_iff_eq, Bool.not_eq_true', decide_eq_true_eq] at h5
  obtain ⟨⟨⟨⟨⟨g1, g2⟩, g3⟩, g4⟩, g5⟩, g6⟩ := h5
  simp [Cond.before, Cond.holds, Cond.value, h1, h2, h3, h4, g1, g2, g3, g4, g5, g6]
def isCode : Jvm.Cond → Bool
  | .code _ _ _ _ => true
  | _ => false
theorem all_split {L : List Jvm.Cond} {P : Jvm.Cond → Bool} (h1 : L.all (fun c => isCode c || P c) = true) (h2 : ∀ c ∈ L.filter isCode, P c = true) : L.all P = true := by
  refine List.all_eq_true.mpr fun c hc => ?_
  have h := List.all_eq_true.mp h1 c hc
  rcases Bool.eq_false_or_eq_true (isCode c) with hi | hi
  · exact h2 c (List.mem_filter.mpr ⟨hc, hi⟩)
  · simpa [hi] using h
set_option maxRecDepth 65536 in
theorem w_c0 : (Jvm.Cond.code x code maxLocals ret).before args0 about1 = true := code_word (m := ⟨1, 3⟩) (meth := k1m3) (c := k1c3) (by decide +kernel) rfl rfl rfl (by decide +kernel)
set_option maxRecDepth 65536 in
theorem w_c1 : (Jvm.Cond.code ({ cls := "com/example/ocotillo/ocotillo/core/FeedProblemEqualsPinLaw", name := "mk", desc := "(ICCC)Ljava/lang/String;" } : Jvm.MethodName) method_2_code (4 : Nat) (Option.some (Jvm.ClassFile.FieldType.object "java/lang/String"))).before args0 about1 = true := code_word (m := ⟨1, 1⟩) (meth := k1m1) (c := k1c1) (by decide +kernel) rfl rfl rfl (by decide +kernel)
set_option maxRecDepth 65536 in
theorem w_c2 : (Jvm.Cond.code ({ cls := "java/lang/String", name := "<init>", desc := "([C)V" } : Jvm.MethodName) jdk_42_method_3_code (2 : Nat) (Option.none : Option Jvm.ClassFile.FieldType)).before args0 about1 = true := code_word (m := ⟨7, 1⟩) (meth := k7m1) (c := k7c1) (by decide +kernel) rfl rfl rfl (by decide +kernel)
set_option maxRecDepth 65536 in
theorem w_c3 : (Jvm.Cond.code ({ cls := "java/lang/String", name := "<init>", desc := "([CIILjava/lang/Void;)V" } : Jvm.MethodName) jdk_42_method_149_code (6 : Nat) (Option.none : Option Jvm.ClassFile.FieldType)).before args0 about1 = true := code_word (m := ⟨7, 3⟩) (meth := k7m3) (c := k7c3) (by decide +kernel) rfl rfl rfl (by decide +kernel)
set_option maxRecDepth 65536 in
theorem w_c4 : (Jvm.Cond.code ({ cls := "java/lang/Object", name := "<init>", desc := "()V" } : Jvm.MethodName) object_method_1_code (1 : Nat) (Option.none : Option Jvm.ClassFile.FieldType)).before args0 about1 = true := code_word (m := ⟨0, 0⟩) (meth := k0m0) (c := k0c0) (by decide +kernel) rfl rfl rfl (by decide +kernel)
set_option maxRecDepth 65536 in
theorem w_c5 : (Jvm.Cond.code ({ cls := "com/example/ocotillo/ocotillo/core/FeedProblemEqualsPinLaw", name := "code", desc := "(I)Lcom/example/ocotillo/ocotillo/core/FeedProblem$Code;" } : Jvm.MethodName) method_3_code (1 : Nat) (Option.some (Jvm.ClassFile.FieldType.object "com/example/ocotillo/ocotillo/core/FeedProblem$Code"))).before args0 about1 = true := code_word (m := ⟨1, 2⟩) (meth := k1m2) (c := k1c2) (by decide +kernel) rfl rfl rfl (by decide +kernel)
set_option maxRecDepth 65536 in
theorem w_c6 : (Jvm.Cond.code ({ cls := "com/example/ocotillo/ocotillo/core/FeedProblem", name := "<init>", desc := "(Ljava/lang/String;Lcom/example/ocotillo/ocotillo/core/FeedProblem$Code;)V" } : Jvm.MethodName) prog_1_method_1_code (3 : Nat) (Option.none : Option Jvm.ClassFile.FieldType)).before args0 about1 = true := code_word (m := ⟨8, 0⟩) (meth := k8m0) (c := k8c0) (by decide +kernel) rfl rfl rfl (by decide +kernel)
set_option maxRecDepth 65536 in
theorem w_c7 : (Jvm.Cond.code ({ cls := "com/example/ocotillo/ocotillo/core/FeedProblem", name := "equals", desc := "(Ljava/lang/Object;)Z" } : Jvm.MethodName) prog_1_method_4_code (2 : Nat) (Option.some Jvm.ClassFile.FieldType.boolean)).before args0 about1 = true := code_word (m := ⟨8, 1⟩) (meth := k8m1) (c := k8c1) (by decide +kernel) rfl rfl rfl (by decide +kernel)
set_option maxRecDepth 65536 in
theorem w_c8 : (Jvm.Cond.code ({ cls := "java/lang/String", name := "equals", desc := "(Ljava/lang/Object;)Z" } : Jvm.MethodName) jdk_42_method_66_code (3 : Nat) (Option.some Jvm.ClassFile.FieldType.boolean)).before args0 about1 = true := code_word (m := ⟨7, 2⟩) (meth := k7m2) (c := k7c2) (by decide +kernel) rfl rfl rfl (by decide +kernel)
set_option maxRecDepth 65536 in
theorem w_c9 : (Jvm.Cond.code ({ cls := "java/lang/StringLatin1", name := "equals", desc := "([B[B)Z" } : Jvm.MethodName) jdk_43_method_13_code (3 : Nat) (Option.some Jvm.ClassFile.FieldType.boolean)).before args0 about1 = true := code_word (m := ⟨11, 1⟩) (meth := k11m1) (c := k11c1) (by decide +kernel) rfl rfl rfl (by decide +kernel)
set_option maxRecDepth 65536 in
theorem w_c10 : (Jvm.Cond.code ({ cls := "java/lang/StringUTF16", name := "compress", desc := "([CII)[B" } : Jvm.MethodName) jdk_52_method_16_code (6 : Nat) (Option.some (Jvm.ClassFile.FieldType.array Jvm.ClassFile.FieldType.byte))).before args0 about1 = true := code_word (m := ⟨12, 2⟩) (meth := k12m2) (c := k12c2) (by decide +kernel) rfl rfl rfl (by decide +kernel)
set_option maxRecDepth 65536 in
theorem w_c11 : (Jvm.Cond.code ({ cls := "java/lang/StringUTF16", name := "compress", desc := "([CI[BII)I" } : Jvm.MethodName) jdk_52_method_21_code (7 : Nat) (Option.some Jvm.ClassFile.FieldType.int)).before args0 about1 = true := code_word (m := ⟨12, 3⟩) (meth := k12m3) (c := k12c3) (by decide +kernel) rfl rfl rfl (by decide +kernel)
set_option maxRecDepth 65536 in
theorem w_c12 : (Jvm.Cond.code ({ cls := "java/lang/StringUTF16", name := "coderFromArrayLen", desc := "([BI)B" } : Jvm.MethodName) jdk_52_method_15_code (2 : Nat) (Option.some Jvm.ClassFile.FieldType.byte)).before args0 about1 = true := code_word (m := ⟨12, 1⟩) (meth := k12m1) (c := k12c1) (by decide +kernel) rfl rfl rfl (by decide +kernel)
def codes1 : List Jvm.Cond := [Jvm.Cond.code x code maxLocals ret, Jvm.Cond.code ({ cls := "com/example/ocotillo/ocotillo/core/FeedProblemEqualsPinLaw", name := "mk", desc := "(ICCC)Ljava/lang/String;" } : Jvm.MethodName) method_2_code (4 : Nat) (Option.some (Jvm.ClassFile.FieldType.object "java/lang/String")), Jvm.Cond.code ({ cls := "java/lang/String", name := "<init>", desc := "([C)V" } : Jvm.MethodName) jdk_42_method_3_code (2 : Nat) (Option.none : Option Jvm.ClassFile.FieldType), Jvm.Cond.code ({ cls := "java/lang/String", name := "<init>", desc := "([CIILjava/lang/Void;)V" } : Jvm.MethodName) jdk_42_method_149_code (6 : Nat) (Option.none : Option Jvm.ClassFile.FieldType), Jvm.Cond.code ({ cls := "java/lang/Object", name := "<init>", desc := "()V" } : Jvm.MethodName) object_method_1_code (1 : Nat) (Option.none : Option Jvm.ClassFile.FieldType), Jvm.Cond.code ({ cls := "com/example/ocotillo/ocotillo/core/FeedProblemEqualsPinLaw", name := "code", desc := "(I)Lcom/example/ocotillo/ocotillo/core/FeedProblem$Code;" } : Jvm.MethodName) method_3_code (1 : Nat) (Option.some (Jvm.ClassFile.FieldType.object "com/example/ocotillo/ocotillo/core/FeedProblem$Code")), Jvm.Cond.code ({ cls := "com/example/ocotillo/ocotillo/core/FeedProblem", name := "<init>", desc := "(Ljava/lang/String;Lcom/example/ocotillo/ocotillo/core/FeedProblem$Code;)V" } : Jvm.MethodName) prog_1_method_1_code (3 : Nat) (Option.none : Option Jvm.ClassFile.FieldType), Jvm.Cond.code ({ cls := "com/example/ocotillo/ocotillo/core/FeedProblem", name := "equals", desc := "(Ljava/lang/Object;)Z" } : Jvm.MethodName) prog_1_method_4_code (2 : Nat) (Option.some Jvm.ClassFile.FieldType.boolean), Jvm.Cond.code ({ cls := "java/lang/String", name := "equals", desc := "(Ljava/lang/Object;)Z" } : Jvm.MethodName) jdk_42_method_66_code (3 : Nat) (Option.some Jvm.ClassFile.FieldType.boolean), Jvm.Cond.code ({ cls := "java/lang/StringLatin1", name := "equals", desc := "([B[B)Z" } : Jvm.MethodName) jdk_43_method_13_code (3 : Nat) (Option.some Jvm.ClassFile.FieldType.boolean), Jvm.Cond.code ({ cls := "java/lang/StringUTF16", name := "compress", desc := "([CII)[B" } : Jvm.MethodName) jdk_52_method_16_code (6 : Nat) (Option.some (Jvm.ClassFile.FieldType.array Jvm.ClassFile.FieldType.byte)), Jvm.Cond.code ({ cls := "java/lang/StringUTF16", name := "compress", desc := "([CI[BII)I" } : Jvm.MethodName) jdk_52_method_21_code (7 : Nat) (Option.some Jvm.ClassFile.FieldType.int), Jvm.Cond.code ({ cls := "java/lang/StringUTF16", name := "coderFromArrayLen", desc := "([BI)B" } : Jvm.MethodName) jdk_52_method_15_code (2 : Nat) (Option.some Jvm.ClassFile.FieldType.byte)]
set_option maxRecDepth 65536 in
theorem codes_eq : words1.filter isCode = codes1 := rfl
theorem w_codes : ∀ c ∈ words1.filter isCode, c.before args0 about1 = true := by
  rw [codes_eq]
  intro c hc
  simp only [codes1, List.mem_cons, List.not_mem_nil, or_false] at hc
  rcases hc with rfl | rfl | rfl | rfl | rfl | rfl | rfl | rfl | rfl | rfl | rfl | rfl | rfl
  · exact w_c0
  · exact w_c1
  · exact w_c2
  · exact w_c3
  · exact w_c4
  · exact w_c5
  · exact w_c6
  · exact w_c7
  · exact w_c8
  · exact w_c9
  · exact w_c10
  · exact w_c11
  · exact w_c12
set_option maxRecDepth 65536 in
theorem w_t1 : (words1.take 24).all (fun c => isCode c || c.before args0 about1) = true := by decide +kernel
set_option maxRecDepth 65536 in
theorem w_t2 : ((words1.drop 24).take 24).all (fun c => isCode c || c.before args0 about1) = true := by decide +kernel
set_option maxRecDepth 65536 in
theorem w_t3 : (((words1.drop 24).drop 24).take 24).all (fun c => isCode c || c.before args0 about1) = true := by decide +kernel
set_option maxRecDepth 65536 in
theorem w_t4 : (((words1.drop 24).drop 24).drop 24).all (fun c => isCode c || c.before args0 about1) = true := by decide +kernel
theorem w_tables : (allAtoms (Jvm.Cond.code x code maxLocals ret :: tables_1)).before args0 about1 = true := by
  rw [allAtoms_all]
  show words1.all (fun c => c.before args0 about1) = true
  refine all_split ?_ w_codes
  rw [← List.take_append_drop 24 words1, List.all_append, w_t1, ← List.take_append_drop 24 (words1.drop 24), List.all_append, w_t2, ← List.take_append_drop 24 ((words1.drop 24).drop 24), List.all_append, w_t3, w_t4]
  rfl
set_option maxRecDepth 65536 in
theorem w_rest : rest_1_c.before args0 about1 = true := by decide +kernel
set_option maxRecDepth 65536 in
theorem w_case : (Jvm.Cond.and given_1 narrow_1).before args0 about1 = true := by decide +kernel
set_option maxRecDepth 65536 in
theorem w_consts : constsHeld consts_1 about1 := Jvm.Lit.constsHeldB_iff.mp (by decide +kernel)
theorem w_applies : (headSpec (Jvm.Cond.code x code maxLocals ret :: tables_1) room_1).applies x e0.platform about1 = true :=
  (Spec.applies_iff w_frames).mpr ⟨w_running, w_runnable, w_alone, w_named, w_hears, w_ripe, w_room, w_tables⟩
theorem atStart : AtStart classFile x code maxLocals ret World_1 tables_1 room_1 Calls_1 rest_1 Pre_1 launch0 p0 e0 about1 theMethod args0 below0 :=
  ⟨lists_1, trivial, launch0.admits_env _ _ _, launch0.least_env, fairChoices_fair.cas, fairChoices_fair.clock, w_frames, w_args, w_heap, w_applies, ⟨w_consts, trivial⟩, w_rest, w_case⟩
end start1
theorem witness_1 : WitnessClaimed_1 := ⟨start1.p0, start1.e0, start1.about1, start1.theMethod, start1.args0, start1.below0, start1.atStart⟩
end Jvm.Pilot.@@N@@
