import JvmDerived
import JvmDerived.Pilot.@@N@@Statement
import JvmDerived.Pilot.@@N@@Code
set_option linter.unusedVariables false
set_option linter.unusedSimpArgs false
/- laws to paste: Road.backV, Road.lenW, Road.chN, Road.codOf (cut by pick.py; bodies as the Statement names them) -/
namespace Jvm.Pilot.@@N@@
namespace StrChars
open Jvm Sem ClassFile Op Lib Jvm.Stand Jvm.Free.XT Jvm.Free.ALB Jvm.Free.JM Jvm.Free
open Jvm.Lib.Cold (StaticIs)
/-- a char array whose places are chars -/
def Ch (a : Addr) (A : Cell) (U : State) : Prop := Arr .char a A U ∧ Typed .char A
theorem Ch.mv {a : Addr} {A : Cell} {U U' : State} (h : Ch a A U) (hal : U.vm.Alike U'.vm) (hh : U'.heap = U.heap) : Ch a A U' := ⟨h.1.mv hal hh, h.2⟩
theorem Ch.keep {a : Addr} {A : Cell} {U U' : State} (h : Ch a A U) (hal : U.vm.Alike U'.vm) (hk : U'.heap[a]? = some A) : Ch a A U' := ⟨h.1.keep hal hk, h.2⟩
/-- what place i of a char[]'s cell holds -/
def cv (A : Cell) (i : Nat) : Int32 := match A.slots[i]? with | some (.int x) => x | _ => 0
theorem Ch.get {a : Addr} {A : Cell} {U : State} (h : Ch a A U) {i : Nat} (hi : i < A.slots.size) : A.slots[i]? = some (.int (cv A i)) := by
  have e := Array.getElem?_eq_getElem hi
  have f := h.2 i _ e
  unfold cv; rw [e]
  generalize A.slots[i] = v at f
  cases v <;> simp [fits] at f ⊢
/-- the byte that i2b leaves of a char -/
def lo8 (x : Int32) : Int32 := x.toInt8.toInt32
theorem fits_lo8 (y : Int32) : fits .byte (.int (lo8 y)) = true := by
  have h1 := y.toInt8.le_toInt
  have h2 := y.toInt8.toInt_lt
  simp only [lo8, fits, Bool.and_eq_true, decide_eq_true_eq, Int32.le_iff_toInt_le, Int8.toInt_toInt32, show (-128 : Int32).toInt = -128 from by decide, show (127 : Int32).toInt = 127 from by decide]
  omega
/-- A' is A but that each place j of lo .. hi - 1 holds f j -/
def Laid (A A' : Cell) (lo hi : Nat) (f : Nat → Value) : Prop := A'.cls = A.cls ∧ A'.vm = A.vm ∧ A'.slots.size = A.slots.size ∧ ∀ i, A'.slots[i]? = if lo ≤ i ∧ i < hi then some (f i) else A.slots[i]?
theorem Laid.zero (A : Cell) (lo : Nat) (f : Nat → Value) : Laid A A lo (lo + 0) f := ⟨rfl, rfl, rfl, fun i => by rw [if_neg (by omega)]⟩
theorem Laid.step {A Ak : Cell} {lo k : Nat} {f : Nat → Value} {v : Value} (h : Laid A Ak lo k f) (hlo : lo ≤ k) (hk : k < Ak.slots.size) (hv : v = f k) : Laid A (Ak.setSlot k v) lo (k + 1) f := by
  refine ⟨h.1, h.2.1, by simpa [Cell.setSlot] using h.2.2.1, fun i => ?_⟩
  by_cases e : k = i
  · subst e; rw [Cell.slots_setSlot_self v hk, if_pos (by omega), hv]
  · rw [Cell.slots_setSlot_ne v e, h.2.2.2 i]
    by_cases q : lo ≤ i ∧ i < k
    · rw [if_pos q, if_pos (by omega)]
    · rw [if_neg q, if_neg (by omega)]
def U16 : String := "java/lang/StringUTF16"
namespace Cmp5
def yN : MethodName := ⟨"java/lang/StringUTF16", "compress", "([CI[BII)I"⟩
abbrev yB : ByteArray := jdk_52_method_21_code
theorem d0 : decode yB 0 = .ok (.iconst 0, 1) := by decide +kernel
theorem d1 : decode yB 1 = .ok (.istore 5, 2) := by decide +kernel
theorem d3 : decode yB 3 = .ok (.iload 5, 2) := by decide +kernel
theorem d5 : decode yB 5 = .ok (.iload 4, 2) := by decide +kernel
theorem d7 : decode yB 7 = .ok (.if_icmp (.ge) 37, 3) := by decide +kernel
theorem d10 : decode yB 10 = .ok (.aload_n 0, 1) := by decide +kernel
theorem d11 : decode yB 11 = .ok (.iload_n 1, 1) := by decide +kernel
theorem d12 : decode yB 12 = .ok (.caload, 1) := by decide +kernel
theorem d13 : decode yB 13 = .ok (.istore 6, 2) := by decide +kernel
theorem d15 : decode yB 15 = .ok (.iload 6, 2) := by decide +kernel
theorem d17 : decode yB 17 = .ok (.sipush 255, 3) := by decide +kernel
theorem d20 : decode yB 20 = .ok (.if_icmp (.le) 6, 3) := by decide +kernel
theorem d26 : decode yB 26 = .ok (.aload_n 2, 1) := by decide +kernel
theorem d27 : decode yB 27 = .ok (.iload_n 3, 1) := by decide +kernel
theorem d28 : decode yB 28 = .ok (.iload 6, 2) := by decide +kernel
theorem d30 : decode yB 30 = .ok (.i2b, 1) := by decide +kernel
theorem d31 : decode yB 31 = .ok (.bastore, 1) := by decide +kernel
theorem d32 : decode yB 32 = .ok (.iinc 1 1, 3) := by decide +kernel
theorem d35 : decode yB 35 = .ok (.iinc 3 1, 3) := by decide +kernel
theorem d38 : decode yB 38 = .ok (.iinc 5 1, 3) := by decide +kernel
theorem d41 : decode yB 41 = .ok (.goto (-38), 3) := by decide +kernel
theorem d44 : decode yB 44 = .ok (.iload 4, 2) := by decide +kernel
theorem d46 : decode yB 46 = .ok (.ireturn, 1) := by decide +kernel
def site : List Cond := []
def tab : Cond := tabOf yN yB 7 (some .int) site
def P (b : Addr) (A : Cell) (d : Addr) (B : Cell) (o q len : Nat) (args : Array Value) (s : State) : Prop := args = #[.ref b, .int (Int32.ofNat o), .ref d, .int (Int32.ofNat q), .int (Int32.ofNat len)] ∧ Ch b A s ∧ Arr .byte d B s ∧ b ≠ d ∧ o + len ≤ A.slots.size ∧ q + len ≤ B.slots.size ∧ ∀ i, i < len → ¬ 255 < cv A (o + i)
def E (b : Addr) (A : Cell) (d : Addr) (B : Cell) (o q len : Nat) (r : Option Value) (s u : State) : Prop := r = some (.int (Int32.ofNat len)) ∧ ∃ B', Put d B' s u ∧ Laid B B' q (q + len) (fun j => Value.int (lo8 (cv A (o + (j - q)))))
/-- no char of the range above 255: len; the places written hold each char's low byte -/
theorem law (l : Launch) (b : Addr) (A : Cell) (d : Addr) (B : Cell) (o q len : Nat) : Law l yN 5 5 0 0 yB 7 (some .int) site (P b A d B o q len) (E b A d B o q len) (copyLocs d q len) 0 0 := by
  refine Law.of_walk (plainFor_of_name (by decide +kernel)) (by decide +kernel) (by decide +kernel) (by decide) (fun _ _ h => by rw [h.1]; rfl) (fun _ U U' hal hh h => ⟨h.1, h.2.1.mv hal hh, h.2.2.1.mv hal hh, h.2.2.2⟩) (fun r U U' V V' h1 hal h2 h => ⟨h.1, h.2.elim fun B' q => ⟨B', q.1.mv h1 h2, q.2⟩⟩) ?_
  intro p e s m args below meth c s₁ X0 hexec hbytes hml hret hlk hnm hown hh0 W hP
  obtain ⟨rfl, hA, hB, hne, l1, l2, hp⟩ := hP
  have c1 : Steps p.tables e below (s₁.setTop (entryFrame m #[.ref b, .int (Int32.ofNat o), .ref d, .int (Int32.ofNat q), .int (Int32.ofNat len)] 7)) (s₁.setTop (mkF m 0 #[.val (.ref b), .val (.int (Int32.ofNat o)), .val (.ref d), .val (.int (Int32.ofNat q)), .val (.int (Int32.ofNat len)), .unset, .unset] [])) := entry rfl
  have hA0 := hA.1.mv X0.warmed.alike hh0
  have hB0 := hB.mv X0.warmed.alike hh0
  have a31 := hA.1.2.2.2
  have c2 : Steps p.tables e below (s₁.setTop (entryFrame m #[.ref b, .int (Int32.ofNat o), .ref d, .int (Int32.ofNat q), .int (Int32.ofNat len)] 7)) (s₁.setTop (mkF m 3 #[.val (.ref b), .val (.int (Int32.ofNat o)), .val (.ref d), .val (.int (Int32.ofNat q)), .val (.int (Int32.ofNat len)), .val (.int 0), .unset] [])) := c1.trans (by
    refine iconstV X0.here hexec rfl 0 (hb hbytes d0) (by decide) ?_
    refine XS.istore X0.here hexec rfl (hb hbytes d1) rfl rfl ?_
    exact Steps.refl _)
  have loop : ∀ (r i : Nat), i + r = len → ∀ (z : Slot), (z = .unset ∨ ∃ w, z = .val w ∧ w.category = 1) → ∀ (Tl : State) (Bk : Cell), Stand p l e { frames := 0, locals := 0, cells := 0, slots := 0 } s m #[.ref b, .int (Int32.ofNat o), .ref d, .int (Int32.ofNat q), .int (Int32.ofNat len)] below meth c Tl ([] ++ copyLocs d q i) 0 0 → Put d Bk s₁ Tl → Laid B Bk q (q + i) (fun j => Value.int (lo8 (cv A (o + (j - q))))) →
      Steps p.tables e below (s₁.setTop (entryFrame m #[.ref b, .int (Int32.ofNat o), .ref d, .int (Int32.ofNat q), .int (Int32.ofNat len)] 7)) (Tl.setTop (mkF m 3 #[.val (.ref b), .val (.int (Int32.ofNat (o + i))), .val (.ref d), .val (.int (Int32.ofNat (q + i))), .val (.int (Int32.ofNat len)), .val (.int (Int32.ofNat i)), z] [])) → ∃ (T' : State) (B' : Cell) (z' : Slot), Stand p l e { frames := 0, locals := 0, cells := 0, slots := 0 } s m #[.ref b, .int (Int32.ofNat o), .ref d, .int (Int32.ofNat q), .int (Int32.ofNat len)] below meth c T' ([] ++ copyLocs d q len) 0 0 ∧ Put d B' s₁ T' ∧ Laid B B' q (q + len) (fun j => Value.int (lo8 (cv A (o + (j - q))))) ∧
      Steps p.tables e below (s₁.setTop (entryFrame m #[.ref b, .int (Int32.ofNat o), .ref d, .int (Int32.ofNat q), .int (Int32.ofNat len)] 7)) (T'.setTop (mkF m 3 #[.val (.ref b), .val (.int (Int32.ofNat (o + len))), .val (.ref d), .val (.int (Int32.ofNat (q + len))), .val (.int (Int32.ofNat len)), .val (.int (Int32.ofNat len)), z'] [])) := by
    intro r
    induction r with
    | zero =>
      intro i hi z hz Tl Bk Xl pl fl cl
      have hil : i = len := by omega
      rw [hil] at Xl fl cl
      exact ⟨Tl, Bk, z, Xl, pl, fl, cl⟩
    | succ r ih =>
      intro i hi z hz Tl Bk Xl pl fl cl
      have all := X0.warmed.alike.symm.trans Xl.warmed.alike
      have hAl := hA0.keep all (pl.other hne hA0.1)
      have hBk := hB0.like all pl.1 fl.1 fl.2.1 fl.2.2.1
      have hlt : q + i < Bk.slots.size := by rw [fl.2.2.1]; omega
      have c3 : Steps p.tables e below (s₁.setTop (entryFrame m #[.ref b, .int (Int32.ofNat o), .ref d, .int (Int32.ofNat q), .int (Int32.ofNat len)] 7)) (Tl.setTop (mkF m 12 #[.val (.ref b), .val (.int (Int32.ofNat (o + i))), .val (.ref d), .val (.int (Int32.ofNat (q + i))), .val (.int (Int32.ofNat len)), .val (.int (Int32.ofNat i)), z] [.int (Int32.ofNat (o + i)), .ref b])) := cl.trans (by
        refine XS.iload Xl.here hexec rfl (hb hbytes d3) rfl ?_
        refine XS.iload Xl.here hexec rfl (hb hbytes d5) rfl ?_
        refine XS.icmpNo Xl.here hexec rfl (hb hbytes d7) rfl (ii_ge_f (lt32 (by omega) (by omega))) ?_
        refine XS.aloadN Xl.here hexec rfl (hb hbytes d10) rfl rfl ?_
        refine XS.iloadN Xl.here hexec rfl (hb hbytes d11) rfl ?_
        exact Steps.refl _)
      have c4 : Steps p.tables e below (s₁.setTop (entryFrame m #[.ref b, .int (Int32.ofNat o), .ref d, .int (Int32.ofNat q), .int (Int32.ofNat len)] 7)) (Tl.setTop (mkF m 13 #[.val (.ref b), .val (.int (Int32.ofNat (o + i))), .val (.ref d), .val (.int (Int32.ofNat (q + i))), .val (.int (Int32.ofNat len)), .val (.int (Int32.ofNat i)), z] [.int (cv A (o + i))])) := c3.trans (by
        refine Xl.aget hexec hAl rfl (hA.get (i := o + i) (by omega)) rfl rfl (hb hbytes d12) ?_
        exact Steps.refl _)
      have c5 : Steps p.tables e below (s₁.setTop (entryFrame m #[.ref b, .int (Int32.ofNat o), .ref d, .int (Int32.ofNat q), .int (Int32.ofNat len)] 7)) (Tl.setTop (mkF m 15 #[.val (.ref b), .val (.int (Int32.ofNat (o + i))), .val (.ref d), .val (.int (Int32.ofNat (q + i))), .val (.int (Int32.ofNat len)), .val (.int (Int32.ofNat i)), .val (.int (cv A (o + i)))] [])) := c4.trans (by
        refine XS.istoreS Xl.here hexec rfl (hb hbytes d13) rfl rfl hz ?_
        exact Steps.refl _)
      have c6 : Steps p.tables e below (s₁.setTop (entryFrame m #[.ref b, .int (Int32.ofNat o), .ref d, .int (Int32.ofNat q), .int (Int32.ofNat len)] 7)) (Tl.setTop (mkF m 31 #[.val (.ref b), .val (.int (Int32.ofNat (o + i))), .val (.ref d), .val (.int (Int32.ofNat (q + i))), .val (.int (Int32.ofNat len)), .val (.int (Int32.ofNat i)), .val (.int (cv A (o + i)))] [.int (lo8 (cv A (o + i))), .int (Int32.ofNat (q + i)), .ref d])) := c5.trans (by
        refine XS.iload Xl.here hexec rfl (hb hbytes d15) rfl ?_
        refine sipushV Xl.here hexec rfl 255 (hb hbytes d17) (by decide) ?_
        refine XS.icmpYes Xl.here hexec rfl (pc0 := 20) rfl (hb hbytes d20) rfl (ii_le_t (hp i (by omega))) (by decide) rfl ?_
        refine XS.aloadN Xl.here hexec rfl (hb hbytes d26) rfl rfl ?_
        refine XS.iloadN Xl.here hexec rfl (hb hbytes d27) rfl ?_
        refine XS.iload Xl.here hexec rfl (hb hbytes d28) rfl ?_
        refine i2b Xl.here hexec rfl (hb hbytes d30) rfl ?_
        exact Steps.refl _)
      obtain ⟨T7, X7, p7, st7⟩ := Xl.aput hexec hBk rfl hlt rfl (fits_lo8 (cv A (o + i))) (g := (mkF m 31 #[.val (.ref b), .val (.int (Int32.ofNat (o + i))), .val (.ref d), .val (.int (Int32.ofNat (q + i))), .val (.int (Int32.ofNat len)), .val (.int (Int32.ofNat i)), .val (.int (cv A (o + i)))] [.int (lo8 (cv A (o + i))), .int (Int32.ofNat (q + i)), .ref d])) rfl (rest := []) rfl (hb hbytes d31)
      have c8 : Steps p.tables e below (s₁.setTop (entryFrame m #[.ref b, .int (Int32.ofNat o), .ref d, .int (Int32.ofNat q), .int (Int32.ofNat len)] 7)) (T7.setTop (mkF m 32 #[.val (.ref b), .val (.int (Int32.ofNat (o + i))), .val (.ref d), .val (.int (Int32.ofNat (q + i))), .val (.int (Int32.ofNat len)), .val (.int (Int32.ofNat i)), .val (.int (cv A (o + i)))] [])) := c6.trans (st7 _ (Steps.refl _))
      have c9 : Steps p.tables e below (s₁.setTop (entryFrame m #[.ref b, .int (Int32.ofNat o), .ref d, .int (Int32.ofNat q), .int (Int32.ofNat len)] 7)) (T7.setTop (mkF m 3 #[.val (.ref b), .val (.int (Int32.ofNat (o + i) + 1)), .val (.ref d), .val (.int (Int32.ofNat (q + i) + 1)), .val (.int (Int32.ofNat len)), .val (.int (Int32.ofNat i + 1)), .val (.int (cv A (o + i)))] [])) := c8.trans (by
        refine iincV X7.here hexec rfl 1 (hb hbytes d32) (by decide) rfl rfl ?_
        refine iincV X7.here hexec rfl 1 (hb hbytes d35) (by decide) rfl rfl ?_
        refine iincV X7.here hexec rfl 1 (hb hbytes d38) (by decide) rfl rfl ?_
        refine XS.goto X7.here hexec rfl (pc0 := 41) rfl (hb hbytes d41) (by decide) rfl ?_
        exact Steps.refl _)
      have c10 : Steps p.tables e below (s₁.setTop (entryFrame m #[.ref b, .int (Int32.ofNat o), .ref d, .int (Int32.ofNat q), .int (Int32.ofNat len)] 7)) (T7.setTop (mkF m 3 #[.val (.ref b), .val (.int (Int32.ofNat (o + (i + 1)))), .val (.ref d), .val (.int (Int32.ofNat (q + (i + 1)))), .val (.int (Int32.ofNat len)), .val (.int (Int32.ofNat (i + 1))), .val (.int (cv A (o + i)))] [])) := by
        have := c9
        rw [succ32, succ32, succ32] at this
        exact this
      exact ih (i + 1) (by omega) _ (Or.inr ⟨_, rfl, rfl⟩) T7 _ (by rw [copyLocs_step, ← List.append_assoc]; exact X7) (pl.trans p7) (fl.step (by omega) hlt (by simp)) c10
  obtain ⟨T9, B9, z9, X9, p9, f9, g9⟩ := loop len 0 (by omega) .unset (Or.inl rfl) s₁ B (by simpa [copyLocs] using X0) ⟨hB0.1, fun _ _ => rfl, rfl⟩ (Laid.zero _ _ _) c2
  have c11 : Steps p.tables e below (s₁.setTop (entryFrame m #[.ref b, .int (Int32.ofNat o), .ref d, .int (Int32.ofNat q), .int (Int32.ofNat len)] 7)) (T9.setTop (mkF m 46 #[.val (.ref b), .val (.int (Int32.ofNat (o + len))), .val (.ref d), .val (.int (Int32.ofNat (q + len))), .val (.int (Int32.ofNat len)), .val (.int (Int32.ofNat len)), z9] [.int (Int32.ofNat len)])) := g9.trans (by
    refine XS.iload X9.here hexec rfl (hb hbytes d3) rfl ?_
    refine XS.iload X9.here hexec rfl (hb hbytes d5) rfl ?_
    refine XS.icmpYes X9.here hexec rfl (pc0 := 7) rfl (hb hbytes d7) rfl (ii_ge_t (nlt32 (by omega) (Nat.le_refl _))) (by decide) rfl ?_
    refine XS.iload X9.here hexec rfl (hb hbytes d44) rfl ?_
    exact Steps.refl _)
  exact ⟨T9, some (.int (Int32.ofNat len)), _, _, _, X9, by simp, rfl, rfl, (fun h => by cases h), ⟨rfl, B9, p9.from hh0, f9⟩, fun fs hl => c11.trans (X9.ireturnOut hexec hret rfl (Or.inl rfl) (hb hbytes d46) hl)⟩
end Cmp5
namespace Cmp3
def yN : MethodName := ⟨"java/lang/StringUTF16", "compress", "([CII)[B"⟩
abbrev yB : ByteArray := jdk_52_method_16_code
theorem d0 : decode yB 0 = .ok (.iload_n 2, 1) := by decide +kernel
theorem d1 : decode yB 1 = .ok (.newarray .byte, 2) := by decide +kernel
theorem d3 : decode yB 3 = .ok (.astore_n 3, 1) := by decide +kernel
theorem d4 : decode yB 4 = .ok (.aload_n 0, 1) := by decide +kernel
theorem d5 : decode yB 5 = .ok (.iload_n 1, 1) := by decide +kernel
theorem d6 : decode yB 6 = .ok (.aload_n 3, 1) := by decide +kernel
theorem d7 : decode yB 7 = .ok (.iconst 0, 1) := by decide +kernel
theorem d8 : decode yB 8 = .ok (.iload_n 2, 1) := by decide +kernel
theorem d9 : decode yB 9 = .ok (.invokestatic 115, 3) := by decide +kernel
theorem d12 : decode yB 12 = .ok (.istore 4, 2) := by decide +kernel
theorem d14 : decode yB 14 = .ok (.iload 4, 2) := by decide +kernel
theorem d16 : decode yB 16 = .ok (.iload_n 2, 1) := by decide +kernel
theorem d17 : decode yB 17 = .ok (.if_icmp (.eq) 40, 3) := by decide +kernel
theorem d57 : decode yB 57 = .ok (.aload_n 3, 1) := by decide +kernel
theorem d58 : decode yB 58 = .ok (.areturn, 1) := by decide +kernel
def site : List Cond := [.arrayClass .byte, Cmp5.tab] ++ staticW U16 115 Cmp5.yN
def tab : Cond := tabOf yN yB 6 (some (.array .byte)) site
def P (b : Addr) (A : Cell) (o len : Nat) (args : Array Value) (s : State) : Prop := args = #[.ref b, .int (Int32.ofNat o), .int (Int32.ofNat len)] ∧ Ch b A s ∧ o + len ≤ A.slots.size ∧ len ≤ 536870912 ∧ ∀ i, i < len → ¬ 255 < cv A (o + i)
def E (b : Addr) (A : Cell) (o len : Nat) (r : Option Value) (s u : State) : Prop := NewArr .byte "[B" len (fun j => .int (lo8 (cv A (o + j)))) r s u ∧ u.heap.size = s.heap.size + 1
/-- no char of the range above 255: a new byte[] of their low bytes -/
theorem law (l : Launch) (b : Addr) (A : Cell) (o len : Nat) : Law l yN 3 3 1 18 yB 6 (some (.array .byte)) site (P b A o len) (E b A o len) [] 1 len := by
  refine Law.of_walk (plainFor_of_name (by decide +kernel)) (by decide +kernel) (by decide +kernel) (by decide) (fun _ _ h => by rw [h.1]; rfl) (fun _ U U' hal hh h => ⟨h.1, h.2.1.mv hal hh, h.2.2⟩) (fun r U U' V V' h1 hal h2 h => ⟨NewArr.mv r U U' V V' h1 hal h2 h.1, by rw [h1, h2]; exact h.2⟩) ?_
  intro p e s m args below meth c s₁ X0 hexec hbytes hml hret hlk hnm hown hh0 W hP
  obtain ⟨rfl, hA, l1, l2, hp⟩ := hP
  have a31 := hA.1.2.2.2
  have c1 : Steps p.tables e below (s₁.setTop (entryFrame m #[.ref b, .int (Int32.ofNat o), .int (Int32.ofNat len)] 6)) (s₁.setTop (mkF m 0 #[.val (.ref b), .val (.int (Int32.ofNat o)), .val (.int (Int32.ofNat len)), .unset, .unset, .unset] [])) := entry rfl
  have c2 : Steps p.tables e below (s₁.setTop (entryFrame m #[.ref b, .int (Int32.ofNat o), .int (Int32.ofNat len)] 6)) (s₁.setTop (mkF m 1 #[.val (.ref b), .val (.int (Int32.ofNat o)), .val (.int (Int32.ofNat len)), .unset, .unset, .unset] [.int (Int32.ofNat len)])) := c1.trans (by
    refine XS.iloadN X0.here hexec rfl (hb hbytes d0) rfl ?_
    exact Steps.refl _)
  obtain ⟨T3, B3, X3, ba3, bs3, bv3, bh3, bf3, st3⟩ := X0.anew hexec (atype := .byte) (wk W (.arrayClass .byte)) rfl (by show len * 1 ≤ _; omega) (by omega) (g := (mkF m 1 #[.val (.ref b), .val (.int (Int32.ofNat o)), .val (.int (Int32.ofNat len)), .unset, .unset, .unset] [.int (Int32.ofNat len)])) rfl (hb hbytes d1) (rest := []) rfl (Nat.le_refl _) (by show 0 + len ≤ len; omega)
  rw [hh0] at ba3 st3
  have kp3 : XT.Kept s T3 := (XT.Kept.of_eq hh0).push bh3
  have hA3 := hA.keep X3.warmed.alike (kp3 _ _ hA.1.1)
  have hne : b ≠ s.heap.size := hA.1.ne
  have c4 : Steps p.tables e below (s₁.setTop (entryFrame m #[.ref b, .int (Int32.ofNat o), .int (Int32.ofNat len)] 6)) (T3.setTop (mkF m 3 #[.val (.ref b), .val (.int (Int32.ofNat o)), .val (.int (Int32.ofNat len)), .unset, .unset, .unset] [.ref s.heap.size])) := c2.trans (st3 _ (Steps.refl _))
  have c5 : Steps p.tables e below (s₁.setTop (entryFrame m #[.ref b, .int (Int32.ofNat o), .int (Int32.ofNat len)] 6)) (T3.setTop (mkF m 9 #[.val (.ref b), .val (.int (Int32.ofNat o)), .val (.int (Int32.ofNat len)), .val (.ref s.heap.size), .unset, .unset] [.int (Int32.ofNat len), .int 0, .ref s.heap.size, .int (Int32.ofNat o), .ref b])) := c4.trans (by
    refine XS.astoreN X3.here hexec rfl (hb hbytes d3) rfl rfl rfl ?_
    refine XS.aloadN X3.here hexec rfl (hb hbytes d4) rfl rfl ?_
    refine XS.iloadN X3.here hexec rfl (hb hbytes d5) rfl ?_
    refine XS.aloadN X3.here hexec rfl (hb hbytes d6) rfl rfl ?_
    refine iconstV X3.here hexec rfl 0 (hb hbytes d7) (by decide) ?_
    refine XS.iloadN X3.here hexec rfl (hb hbytes d8) rfl ?_
    exact Steps.refl _)
  obtain ⟨v6, T6, X6, E6, g6⟩ := X3.callS hexec (Cmp5.law l b A s.heap.size B3 o 0 len) hown (wks W (staticW U16 115 Cmp5.yN)) (wk W Cmp5.tab) (W := 0) (Nat.le_of_ble_eq_true rfl) (Nat.le_of_ble_eq_true rfl) (Nat.le_refl _) (by show 0 + len + 0 ≤ len; omega) (g := (mkF m 9 #[.val (.ref b), .val (.int (Int32.ofNat o)), .val (.int (Int32.ofNat len)), .val (.ref s.heap.size), .unset, .unset] [.int (Int32.ofNat len), .int (Int32.ofNat 0), .ref s.heap.size, .int (Int32.ofNat o), .ref b])) rfl (by rw [hml]; rfl) c5 (argsL := [.ref b, .int (Int32.ofNat o), .ref s.heap.size, .int (Int32.ofNat 0), .int (Int32.ofNat len)]) (rest := []) rfl rfl (by show 2 * 0 + 0 ≤ _; decide) (hb hbytes d9) (⟨rfl, hA3, ba3, hne, l1, by rw [bs3]; simp, hp⟩)
  obtain ⟨rfl, B6, p6, f6⟩ := E6
  have c7 : Steps p.tables e below (s₁.setTop (entryFrame m #[.ref b, .int (Int32.ofNat o), .int (Int32.ofNat len)] 6)) (T6.setTop (mkF m 12 #[.val (.ref b), .val (.int (Int32.ofNat o)), .val (.int (Int32.ofNat len)), .val (.ref s.heap.size), .unset, .unset] [.int (Int32.ofNat len)])) := g6
  have c8 : Steps p.tables e below (s₁.setTop (entryFrame m #[.ref b, .int (Int32.ofNat o), .int (Int32.ofNat len)] 6)) (T6.setTop (mkF m 58 #[.val (.ref b), .val (.int (Int32.ofNat o)), .val (.int (Int32.ofNat len)), .val (.ref s.heap.size), .val (.int (Int32.ofNat len)), .unset] [.ref s.heap.size])) := c7.trans (by
    refine XS.istore X6.here hexec rfl (hb hbytes d12) rfl rfl ?_
    refine XS.iload X6.here hexec rfl (hb hbytes d14) rfl ?_
    refine XS.iloadN X6.here hexec rfl (hb hbytes d16) rfl ?_
    refine XS.icmpYes X6.here hexec rfl (pc0 := 17) rfl (hb hbytes d17) rfl (ii_eq_t rfl) (by decide) rfl ?_
    refine XS.aloadN X6.here hexec rfl (hb hbytes d57) rfl rfl ?_
    exact Steps.refl _)
  have X8 := X6.wide (L' := []) (cells' := 1) (slots' := len) (fun x hx hlt => by
    simp only [List.nil_append, copyLocs, List.mem_map, List.mem_range] at hx
    obtain ⟨i, -, rfl⟩ := hx
    exact absurd hlt (Nat.lt_irrefl _)) (Nat.le_refl _) (by omega)
  exact ⟨T6, some (.ref s.heap.size), _, _, _, X8, rfl, rfl, rfl, (fun h => by cases h), ⟨⟨rfl, B6, ba3.like (X3.warmed.alike.symm.trans X6.warmed.alike) p6.1 f6.1 f6.2.1 f6.2.2.1, f6.2.1.trans bv3, by rw [X6.warmed.alike.findClass, f6.1]; exact bf3, by rw [f6.2.2.1, bs3]; simp, fun j hj => by rw [f6.2.2.2 j, if_pos (by omega)]; rfl, kp3.put p6 (Nat.le_refl _)⟩, by rw [p6.2.2, bh3, hh0]; simp⟩, fun fs hl => c8.trans (X8.areturnOut hexec rfl hret rfl (hb hbytes d58) hl)⟩
end Cmp3
namespace CodL
def yN : MethodName := ⟨"java/lang/StringUTF16", "coderFromArrayLen", "([BI)B"⟩
abbrev yB : ByteArray := jdk_52_method_15_code
theorem d0 : decode yB 0 = .ok (.iload_n 1, 1) := by decide +kernel
theorem d1 : decode yB 1 = .ok (.aload_n 0, 1) := by decide +kernel
theorem d2 : decode yB 2 = .ok (.arraylength, 1) := by decide +kernel
theorem d3 : decode yB 3 = .ok (.isub, 1) := by decide +kernel
theorem d4 : decode yB 4 = .ok (.bipush 31, 2) := by decide +kernel
theorem d6 : decode yB 6 = .ok (.iushr, 1) := by decide +kernel
theorem d7 : decode yB 7 = .ok (.i2b, 1) := by decide +kernel
theorem d8 : decode yB 8 = .ok (.ireturn, 1) := by decide +kernel
def site : List Cond := []
def tab : Cond := tabOf yN yB 2 (some .byte) site
def P (d : Addr) (B : Cell) (args : Array Value) (s : State) : Prop := args = #[.ref d, .int (Int32.ofNat B.slots.size)] ∧ Arr .byte d B s
def E (r : Option Value) (s u : State) : Prop := XT.PureE (some (.int 0)) r s u
/-- an array as long as the number of chars: LATIN1 -/
theorem law (l : Launch) (d : Addr) (B : Cell) : Law l yN 2 2 0 0 yB 2 (some .byte) site (P d B) E [] 0 0 := by
  refine Law.of_walk (plainFor_of_name (by decide +kernel)) (by decide +kernel) (by decide +kernel) (by decide) (fun _ _ h => by rw [h.1]; rfl) (fun _ U U' hal hh h => ⟨h.1, h.2.mv hal hh⟩) (fun r U U' V V' h1 hal h2 h => XT.PureE.mv r U U' V V' h1 hal h2 h) ?_
  intro p e s m args below meth c s₁ X0 hexec hbytes hml hret hlk hnm hown hh0 W hP
  obtain ⟨rfl, hB⟩ := hP
  have hB0 := hB.mv X0.warmed.alike hh0
  have c1 : Steps p.tables e below (s₁.setTop (entryFrame m #[.ref d, .int (Int32.ofNat B.slots.size)] 2)) (s₁.setTop (mkF m 0 #[.val (.ref d), .val (.int (Int32.ofNat B.slots.size))] [])) := entry rfl
  have c2 : Steps p.tables e below (s₁.setTop (entryFrame m #[.ref d, .int (Int32.ofNat B.slots.size)] 2)) (s₁.setTop (mkF m 2 #[.val (.ref d), .val (.int (Int32.ofNat B.slots.size))] [.ref d, .int (Int32.ofNat B.slots.size)])) := c1.trans (by
    refine XS.iloadN X0.here hexec rfl (hb hbytes d0) rfl ?_
    refine XS.aloadN X0.here hexec rfl (hb hbytes d1) rfl rfl ?_
    exact Steps.refl _)
  have c3 : Steps p.tables e below (s₁.setTop (entryFrame m #[.ref d, .int (Int32.ofNat B.slots.size)] 2)) (s₁.setTop (mkF m 8 #[.val (.ref d), .val (.int (Int32.ofNat B.slots.size))] [.int (lo8 (ushr (Int32.ofNat B.slots.size - Int32.ofNat B.slots.size) 31))])) := c2.trans (by
    refine X0.alen hexec hB0 rfl rfl (hb hbytes d2) ?_
    refine XS.isub X0.here hexec rfl (hb hbytes d3) rfl ?_
    refine bipushV X0.here hexec rfl 31 (hb hbytes d4) (by decide) ?_
    refine iushr X0.here hexec rfl (hb hbytes d6) rfl ?_
    refine i2b X0.here hexec rfl (hb hbytes d7) rfl ?_
    exact Steps.refl _)
  have e0 : lo8 (ushr (Int32.ofNat B.slots.size - Int32.ofNat B.slots.size) 31) = 0 := by rw [Int32.sub_self]; decide
  rw [e0] at c3
  exact ⟨s₁, some (.int 0), _, _, _, X0, rfl, rfl, rfl, (fun h => by cases h), ⟨rfl, hh0⟩, fun fs hl => c3.trans (X0.ireturnOut hexec hret rfl (Or.inr (Or.inr (Or.inl rfl))) (hb hbytes d8) hl)⟩
end CodL
/-- the String at a is Latin-1 over a new byte[] (the heap's one new cell): the low bytes of the len chars of A from o on; every cell but a is kept -/
def Got (a : Addr) (D : Cell) (fV fC : Field) (A : Cell) (o len : Nat) (r : Option Value) (s u : State) : Prop := r = none ∧ ∃ D' V : Cell, Blank "java/lang/String" a D' u ∧ Same D D' [fV.slot, fC.slot] ∧ D'.slots[fV.slot]? = some (.ref s.heap.size) ∧ D'.slots[fC.slot]? = some (.int 0) ∧ Arr .byte s.heap.size V u ∧ V.vm = .none ∧ u.vm.findClass "[B" = some V.cls ∧ V.slots.size = len ∧ (∀ j, j < len → V.slots[j]? = some (.int (lo8 (cv A (o + j))))) ∧ (∀ (y : Addr) (c : Cell), y ≠ a → s.heap[y]? = some c → u.heap[y]? = some c) ∧ u.heap.size = s.heap.size + 1
theorem Got.mv {a : Addr} {D A : Cell} {fV fC : Field} {o len : Nat} : ∀ r (U U' V V' : State), U'.heap = U.heap → V.vm.Alike V'.vm → V'.heap = V.heap → Got a D fV fC A o len r U V → Got a D fV fC A o len r U' V' :=
  fun r U U' V V' h1 hal h2 ⟨e0, D', X, a1, a2, a3, a4, a5, a6, a7, a8, a9, a10, a11⟩ => ⟨e0, D', X, a1.mv hal h2, a2, by rw [h1]; exact a3, a4, by rw [h1]; exact a5.mv hal h2, a6, by rw [hal.findClass]; exact a7, a8, a9, by rw [h1, h2]; exact a10, by rw [h1, h2]; exact a11⟩
namespace New4
def yN : MethodName := ⟨"java/lang/String", "<init>", "([CIILjava/lang/Void;)V"⟩
abbrev yB : ByteArray := jdk_42_method_149_code
theorem d0 : decode yB 0 = .ok (.aload_n 0, 1) := by decide +kernel
theorem d1 : decode yB 1 = .ok (.invokespecial 1, 3) := by decide +kernel
theorem d4 : decode yB 4 = .ok (.iload_n 3, 1) := by decide +kernel
theorem d5 : decode yB 5 = .ok (.ifCond (.ne) 22, 3) := by decide +kernel
theorem d27 : decode yB 27 = .ok (.getstatic 38, 3) := by decide +kernel
theorem d30 : decode yB 30 = .ok (.ifCond (.eq) 28, 3) := by decide +kernel
theorem d33 : decode yB 33 = .ok (.aload_n 1, 1) := by decide +kernel
theorem d34 : decode yB 34 = .ok (.iload_n 2, 1) := by decide +kernel
theorem d35 : decode yB 35 = .ok (.iload_n 3, 1) := by decide +kernel
theorem d36 : decode yB 36 = .ok (.invokestatic 177, 3) := by decide +kernel
theorem d39 : decode yB 39 = .ok (.astore 5, 2) := by decide +kernel
theorem d41 : decode yB 41 = .ok (.aload_n 0, 1) := by decide +kernel
theorem d42 : decode yB 42 = .ok (.aload 5, 2) := by decide +kernel
theorem d44 : decode yB 44 = .ok (.iload_n 3, 1) := by decide +kernel
theorem d45 : decode yB 45 = .ok (.invokestatic 47, 3) := by decide +kernel
theorem d48 : decode yB 48 = .ok (.putfield 15, 3) := by decide +kernel
theorem d51 : decode yB 51 = .ok (.aload_n 0, 1) := by decide +kernel
theorem d52 : decode yB 52 = .ok (.aload 5, 2) := by decide +kernel
theorem d54 : decode yB 54 = .ok (.putfield 9, 3) := by decide +kernel
theorem d57 : decode yB 57 = .ok (.return_, 1) := by decide +kernel
def site : List Cond := [.fieldLink "java/lang/String" 38 "java/lang/String" "COMPACT_STRINGS" "Z", Cmp3.tab, CodL.tab, .laysFinal "java/lang/String" "java/lang/String" "value" "[B", .fieldLink "java/lang/String" 9 "java/lang/String" "value" "[B", .laysFinal "java/lang/String" "java/lang/String" "coder" "B", .fieldLink "java/lang/String" 15 "java/lang/String" "coder" "B"] ++ objW "java/lang/String" 1 ++ staticW "java/lang/String" 177 Cmp3.yN ++ staticW "java/lang/String" 47 CodL.yN
def tab : Cond := tabOf yN yB 6 none site
def P (a : Addr) (D : Cell) (fV fC : Field) (b : Addr) (A : Cell) (z : Int32) (o len : Nat) (args : Array Value) (s : State) : Prop := args = #[.ref a, .ref b, .int (Int32.ofNat o), .int (Int32.ofNat len), .null] ∧ Blank "java/lang/String" a D s ∧ Found "java/lang/String" "value" "[B" fV s ∧ Found "java/lang/String" "coder" "B" fC s ∧ Ch b A s ∧ StaticIs s "java/lang/String" "COMPACT_STRINGS" "Z" (.int z) ∧ ¬ z = 0 ∧ 0 < len ∧ o + len ≤ A.slots.size ∧ len ≤ 536870912 ∧ ∀ i, i < len → ¬ 255 < cv A (o + i)
def E (a : Addr) (D : Cell) (fV fC : Field) (A : Cell) (o len : Nat) (r : Option Value) (s u : State) : Prop := Got a D fV fC A o len r s u
/-- len > 0, no char of the range above 255: a Latin-1 String of their low bytes -/
theorem law (l : Launch) (a : Addr) (D : Cell) (fV fC : Field) (b : Addr) (A : Cell) (z : Int32) (o len : Nat) : Law l yN 5 4 2 35 yB 6 none site (P a D fV fC b A z o len) (E a D fV fC A o len) [⟨a, fC.slot⟩, ⟨a, fV.slot⟩] 1 len := by
  refine Law.of_walk (plainFor_of_name (by decide +kernel)) (by decide +kernel) (by decide +kernel) (by decide) (fun _ _ h => by rw [h.1]; rfl) (fun _ U U' hal hh h => ⟨h.1, h.2.1.mv hal hh, h.2.2.1.al hal, h.2.2.2.1.al hal, h.2.2.2.2.1.mv hal hh, h.2.2.2.2.2.1.there hal hh, h.2.2.2.2.2.2⟩) (fun r U U' V V' h1 hal h2 h => Got.mv r U U' V V' h1 hal h2 h) ?_
  intro p e s m args below meth c s₁ X0 hexec hbytes hml hret hlk hnm hown hh0 W hP
  obtain ⟨rfl, hB, f1, f2, hA, s1, hz, l0, l1, l2, hp⟩ := hP
  have a31 := hA.1.2.2.2
  have c1 : Steps p.tables e below (s₁.setTop (entryFrame m #[.ref a, .ref b, .int (Int32.ofNat o), .int (Int32.ofNat len), .null] 6)) (s₁.setTop (mkF m 0 #[.val (.ref a), .val (.ref b), .val (.int (Int32.ofNat o)), .val (.int (Int32.ofNat len)), .val .null, .unset] [])) := entry rfl
  have c2 : Steps p.tables e below (s₁.setTop (entryFrame m #[.ref a, .ref b, .int (Int32.ofNat o), .int (Int32.ofNat len), .null] 6)) (s₁.setTop (mkF m 1 #[.val (.ref a), .val (.ref b), .val (.int (Int32.ofNat o)), .val (.int (Int32.ofNat len)), .val .null, .unset] [.ref a])) := c1.trans (by
    refine XS.aloadN X0.here hexec rfl (hb hbytes d0) rfl rfl ?_
    exact Steps.refl _)
  obtain ⟨T3, X3, q3, st3⟩ := X0.oinit hexec hown (wks W (objW "java/lang/String" 1)) (g := (mkF m 1 #[.val (.ref a), .val (.ref b), .val (.int (Int32.ofNat o)), .val (.int (Int32.ofNat len)), .val .null, .unset] [.ref a])) rfl (by rw [hml]; rfl) (rest := []) rfl (hb hbytes d1) (W := 0) (by show 2 * 0 + 0 ≤ _; decide) (Nat.le_of_ble_eq_true rfl) (Nat.le_of_ble_eq_true rfl)
  have hh3 := q3.trans hh0
  have c4 : Steps p.tables e below (s₁.setTop (entryFrame m #[.ref a, .ref b, .int (Int32.ofNat o), .int (Int32.ofNat len), .null] 6)) (T3.setTop (mkF m 27 #[.val (.ref a), .val (.ref b), .val (.int (Int32.ofNat o)), .val (.int (Int32.ofNat len)), .val .null, .unset] [])) := (c2.trans (st3 _ (Steps.refl _))).trans (by
    refine XS.iloadN X3.here hexec rfl (hb hbytes d4) rfl ?_
    refine XS.ifYes X3.here hexec rfl (pc0 := 5) rfl (hb hbytes d5) rfl (i0_ne_t (nz32 (by omega) l0)) (by decide) rfl ?_
    exact Steps.refl _)
  obtain ⟨T5, X5, q5, st5⟩ := X3.sget hexec hown (wk W (.fieldLink "java/lang/String" 38 "java/lang/String" "COMPACT_STRINGS" "Z")) s1 (fun _ _ h => by rw [hh3]; exact h) (g := (mkF m 27 #[.val (.ref a), .val (.ref b), .val (.int (Int32.ofNat o)), .val (.int (Int32.ofNat len)), .val .null, .unset] [])) rfl (hb hbytes d27)
  have hh5 := q5.trans hh3
  have c6 : Steps p.tables e below (s₁.setTop (entryFrame m #[.ref a, .ref b, .int (Int32.ofNat o), .int (Int32.ofNat len), .null] 6)) (T5.setTop (mkF m 30 #[.val (.ref a), .val (.ref b), .val (.int (Int32.ofNat o)), .val (.int (Int32.ofNat len)), .val .null, .unset] [.int z])) := c4.trans (st5 _ (Steps.refl _))
  have c7 : Steps p.tables e below (s₁.setTop (entryFrame m #[.ref a, .ref b, .int (Int32.ofNat o), .int (Int32.ofNat len), .null] 6)) (T5.setTop (mkF m 36 #[.val (.ref a), .val (.ref b), .val (.int (Int32.ofNat o)), .val (.int (Int32.ofNat len)), .val .null, .unset] [.int (Int32.ofNat len), .int (Int32.ofNat o), .ref b])) := c6.trans (by
    refine XS.ifNo X5.here hexec rfl (hb hbytes d30) rfl (i0_eq_f hz) ?_
    refine XS.aloadN X5.here hexec rfl (hb hbytes d33) rfl rfl ?_
    refine XS.iloadN X5.here hexec rfl (hb hbytes d34) rfl ?_
    refine XS.iloadN X5.here hexec rfl (hb hbytes d35) rfl ?_
    exact Steps.refl _)
  obtain ⟨v8, T8, X8, E8, g8⟩ := X5.callS hexec (Cmp3.law l b A o len) hown (wks W (staticW "java/lang/String" 177 Cmp3.yN)) (wk W Cmp3.tab) (W := 0) (Nat.le_of_ble_eq_true rfl) (Nat.le_of_ble_eq_true rfl) (Nat.le_refl _) (by show 0 + len ≤ len; omega) (g := (mkF m 36 #[.val (.ref a), .val (.ref b), .val (.int (Int32.ofNat o)), .val (.int (Int32.ofNat len)), .val .null, .unset] [.int (Int32.ofNat len), .int (Int32.ofNat o), .ref b])) rfl (by rw [hml]; rfl) c7 (argsL := [.ref b, .int (Int32.ofNat o), .int (Int32.ofNat len)]) (rest := []) rfl rfl (by show 2 * 0 + 0 ≤ _; decide) (hb hbytes d36) (⟨rfl, hA.mv X5.warmed.alike hh5, l1, l2, hp⟩)
  obtain ⟨e8, z8⟩ := E8
  obtain ⟨rfl, N, n1, n2, n3, n4, n5, n6⟩ := NewArr.mv _ T5 s _ _ hh5.symm (Vm.Alike.refl _) rfl e8
  rw [hh5] at z8
  have hB1 := hB.keep X8.warmed.alike (n6 _ _ hB.1)
  have hne : s.heap.size ≠ a := (Nat.ne_of_lt (Array.getElem?_eq_some_iff.mp hB.1).1).symm
  have c9 : Steps p.tables e below (s₁.setTop (entryFrame m #[.ref a, .ref b, .int (Int32.ofNat o), .int (Int32.ofNat len), .null] 6)) (T8.setTop (mkF m 39 #[.val (.ref a), .val (.ref b), .val (.int (Int32.ofNat o)), .val (.int (Int32.ofNat len)), .val .null, .unset] [.ref s.heap.size])) := g8
  have c10 : Steps p.tables e below (s₁.setTop (entryFrame m #[.ref a, .ref b, .int (Int32.ofNat o), .int (Int32.ofNat len), .null] 6)) (T8.setTop (mkF m 45 #[.val (.ref a), .val (.ref b), .val (.int (Int32.ofNat o)), .val (.int (Int32.ofNat len)), .val .null, .val (.ref s.heap.size)] [.int (Int32.ofNat N.slots.size), .ref s.heap.size, .ref a])) := by
    have hc : Steps p.tables e below (s₁.setTop (entryFrame m #[.ref a, .ref b, .int (Int32.ofNat o), .int (Int32.ofNat len), .null] 6)) (T8.setTop (mkF m 45 #[.val (.ref a), .val (.ref b), .val (.int (Int32.ofNat o)), .val (.int (Int32.ofNat len)), .val .null, .val (.ref s.heap.size)] [.int (Int32.ofNat len), .ref s.heap.size, .ref a])) := c9.trans (by
      refine XS.astore X8.here hexec rfl (hb hbytes d39) rfl rfl rfl ?_
      refine XS.aloadN X8.here hexec rfl (hb hbytes d41) rfl rfl ?_
      refine XS.aload X8.here hexec rfl (hb hbytes d42) rfl rfl ?_
      refine XS.iloadN X8.here hexec rfl (hb hbytes d44) rfl ?_
      exact Steps.refl _)
    rw [n4]; exact hc
  obtain ⟨v11, T11, X11, E11, g11⟩ := X8.callS hexec (CodL.law l s.heap.size N) hown (wks W (staticW "java/lang/String" 47 CodL.yN)) (wk W CodL.tab) (W := 1) (Nat.le_of_ble_eq_true rfl) (Nat.le_of_ble_eq_true rfl) (Nat.le_refl _) (by show 0 + len + 0 ≤ len; omega) (g := (mkF m 45 #[.val (.ref a), .val (.ref b), .val (.int (Int32.ofNat o)), .val (.int (Int32.ofNat len)), .val .null, .val (.ref s.heap.size)] [.int (Int32.ofNat N.slots.size), .ref s.heap.size, .ref a])) rfl (by rw [hml]; rfl) c10 (argsL := [.ref s.heap.size, .int (Int32.ofNat N.slots.size)]) (rest := [.ref a]) rfl rfl (by show 2 * 0 + (1 + 0) ≤ _; decide) (hb hbytes d45) (⟨rfl, n1⟩)
  obtain ⟨rfl, q11⟩ := E11
  have hB11 := hB1.mv (X8.warmed.alike.symm.trans X11.warmed.alike) q11
  have c12 : Steps p.tables e below (s₁.setTop (entryFrame m #[.ref a, .ref b, .int (Int32.ofNat o), .int (Int32.ofNat len), .null] 6)) (T11.setTop (mkF m 48 #[.val (.ref a), .val (.ref b), .val (.int (Int32.ofNat o)), .val (.int (Int32.ofNat len)), .val .null, .val (.ref s.heap.size)] [.int 0, .ref a])) := g11
  obtain ⟨T13, X13, p13, bl13, sl13, st13⟩ := X11.finit hexec hown (wk W (.fieldLink "java/lang/String" 15 "java/lang/String" "coder" "B")) (Or.inr ⟨_, (wk W (.laysFinal "java/lang/String" "java/lang/String" "coder" "B"))⟩) (Or.inl ⟨rfl, hnm⟩) f2 (Or.inl rfl) hB11 (t := .byte) (by decide +kernel) rfl (g := (mkF m 48 #[.val (.ref a), .val (.ref b), .val (.int (Int32.ofNat o)), .val (.int (Int32.ofNat len)), .val .null, .val (.ref s.heap.size)] [.int 0, .ref a])) rfl (rest := []) rfl (hb hbytes d48)
  have c14 : Steps p.tables e below (s₁.setTop (entryFrame m #[.ref a, .ref b, .int (Int32.ofNat o), .int (Int32.ofNat len), .null] 6)) (T13.setTop (mkF m 54 #[.val (.ref a), .val (.ref b), .val (.int (Int32.ofNat o)), .val (.int (Int32.ofNat len)), .val .null, .val (.ref s.heap.size)] [.ref s.heap.size, .ref a])) := (c12.trans (st13 _ (Steps.refl _))).trans (by
    refine XS.aloadN X13.here hexec rfl (hb hbytes d51) rfl rfl ?_
    refine XS.aload X13.here hexec rfl (hb hbytes d52) rfl rfl ?_
    exact Steps.refl _)
  obtain ⟨T15, X15, p15, bl15, sl15, st15⟩ := X13.finit hexec hown (wk W (.fieldLink "java/lang/String" 9 "java/lang/String" "value" "[B")) (Or.inr ⟨_, (wk W (.laysFinal "java/lang/String" "java/lang/String" "value" "[B"))⟩) (Or.inl ⟨rfl, hnm⟩) f1 (Or.inl rfl) bl13 (t := (.array .byte)) (by decide +kernel) rfl (g := (mkF m 54 #[.val (.ref a), .val (.ref b), .val (.int (Int32.ofNat o)), .val (.int (Int32.ofNat len)), .val .null, .val (.ref s.heap.size)] [.ref s.heap.size, .ref a])) rfl (rest := []) rfl (hb hbytes d54)
  have c16 : Steps p.tables e below (s₁.setTop (entryFrame m #[.ref a, .ref b, .int (Int32.ofNat o), .int (Int32.ofNat len), .null] 6)) (T15.setTop (mkF m 57 #[.val (.ref a), .val (.ref b), .val (.int (Int32.ofNat o)), .val (.int (Int32.ofNat len)), .val .null, .val (.ref s.heap.size)] [])) := c14.trans (st15 _ (Steps.refl _))
  have ap := apart (Or.inr ⟨_, (wk W (.laysFinal "java/lang/String" "java/lang/String" "value" "[B"))⟩) (Or.inr ⟨_, (wk W (.laysFinal "java/lang/String" "java/lang/String" "coder" "B"))⟩) f1 f2 (t₁ := .array .byte) (t₂ := .byte) (by decide +kernel) (by decide +kernel) (by decide)
  have al := X8.warmed.alike.symm.trans X15.warmed.alike
  have n7 : T11.heap[s.heap.size]? = some N := by rw [q11]; exact n1.1
  exact ⟨T15, none, _, _, _, X15, by simp, rfl, by omega, (fun _ => rfl), ⟨rfl, _, N, bl15, ((Same.refl D _).set _ (by simp)).set _ (by simp), sl15, (Cell.slots_setSlot_ne _ ap).trans sl13, n1.keep al (p15.other hne (p13.other hne n7)), n2, by rw [al.findClass]; exact n3, n4, n5, fun y c h1 h2 => p15.other h1 (p13.other h1 (by rw [q11]; exact n6 y c h2)), by rw [p15.2.2, p13.2.2, q11]; exact z8⟩, fun fs hl => c16.trans (X15.returnOut hexec hret (hb hbytes d57) hl)⟩
end New4
namespace New1
def yN : MethodName := ⟨"java/lang/String", "<init>", "([C)V"⟩
abbrev yB : ByteArray := jdk_42_method_3_code
theorem d0 : decode yB 0 = .ok (.aload_n 0, 1) := by decide +kernel
theorem d1 : decode yB 1 = .ok (.aload_n 1, 1) := by decide +kernel
theorem d2 : decode yB 2 = .ok (.iconst 0, 1) := by decide +kernel
theorem d3 : decode yB 3 = .ok (.aload_n 1, 1) := by decide +kernel
theorem d4 : decode yB 4 = .ok (.arraylength, 1) := by decide +kernel
theorem d5 : decode yB 5 = .ok (.aconst_null, 1) := by decide +kernel
theorem d6 : decode yB 6 = .ok (.invokespecial 27, 3) := by decide +kernel
theorem d9 : decode yB 9 = .ok (.return_, 1) := by decide +kernel
def site : List Cond := [New4.tab] ++ initW "java/lang/String" 27 New4.yN
def tab : Cond := tabOf yN yB 2 none site
def P (a : Addr) (D : Cell) (fV fC : Field) (b : Addr) (A : Cell) (z : Int32) (args : Array Value) (s : State) : Prop := args = #[.ref a, .ref b] ∧ Blank "java/lang/String" a D s ∧ Found "java/lang/String" "value" "[B" fV s ∧ Found "java/lang/String" "coder" "B" fC s ∧ Ch b A s ∧ StaticIs s "java/lang/String" "COMPACT_STRINGS" "Z" (.int z) ∧ ¬ z = 0 ∧ 0 < A.slots.size ∧ A.slots.size ≤ 536870912 ∧ ∀ i, i < A.slots.size → ¬ 255 < cv A i
def E (a : Addr) (D : Cell) (fV fC : Field) (A : Cell) (r : Option Value) (s u : State) : Prop := Got a D fV fC A 0 A.slots.size r s u
/-- new String(chars), not empty, no char above 255: a Latin-1 String of their low bytes -/
theorem law (l : Launch) (a : Addr) (D : Cell) (fV fC : Field) (b : Addr) (A : Cell) (z : Int32) : Law l yN 2 1 3 52 yB 2 none site (P a D fV fC b A z) (E a D fV fC A) [⟨a, fC.slot⟩, ⟨a, fV.slot⟩] 1 A.slots.size := by
  refine Law.of_walk (plainFor_of_name (by decide +kernel)) (by decide +kernel) (by decide +kernel) (by decide) (fun _ _ h => by rw [h.1]; rfl) (fun _ U U' hal hh h => ⟨h.1, h.2.1.mv hal hh, h.2.2.1.al hal, h.2.2.2.1.al hal, h.2.2.2.2.1.mv hal hh, h.2.2.2.2.2.1.there hal hh, h.2.2.2.2.2.2⟩) (fun r U U' V V' h1 hal h2 h => Got.mv r U U' V V' h1 hal h2 h) ?_
  intro p e s m args below meth c s₁ X0 hexec hbytes hml hret hlk hnm hown hh0 W hP
  obtain ⟨rfl, hB, f1, f2, hA, s1, hz, l0, l2, hp⟩ := hP
  have c1 : Steps p.tables e below (s₁.setTop (entryFrame m #[.ref a, .ref b] 2)) (s₁.setTop (mkF m 0 #[.val (.ref a), .val (.ref b)] [])) := entry rfl
  have c2 : Steps p.tables e below (s₁.setTop (entryFrame m #[.ref a, .ref b] 2)) (s₁.setTop (mkF m 6 #[.val (.ref a), .val (.ref b)] [.null, .int (Int32.ofNat A.slots.size), .int 0, .ref b, .ref a])) := c1.trans (by
    refine XS.aloadN X0.here hexec rfl (hb hbytes d0) rfl rfl ?_
    refine XS.aloadN X0.here hexec rfl (hb hbytes d1) rfl rfl ?_
    refine iconstV X0.here hexec rfl 0 (hb hbytes d2) (by decide) ?_
    refine XS.aloadN X0.here hexec rfl (hb hbytes d3) rfl rfl ?_
    refine X0.alen hexec (hA.1.mv X0.warmed.alike hh0) rfl rfl (hb hbytes d4) ?_
    refine XS.aconstNull X0.here hexec rfl (hb hbytes d5) ?_
    exact Steps.refl _)
  obtain ⟨v3, T3, X3, E3, g3⟩ := X0.callN hexec (New4.law l a D fV fC b A z 0 A.slots.size) rfl hown (wks W (initW "java/lang/String" 27 New4.yN)) (W New4.tab (by simp only [site, List.mem_cons, List.mem_append, true_or, or_true])) (W := 0) (Nat.le_of_ble_eq_true rfl) (Nat.le_of_ble_eq_true rfl) (Nat.le_refl _) (by show 0 + A.slots.size ≤ A.slots.size; omega) (g := (mkF m 6 #[.val (.ref a), .val (.ref b)] [.null, .int (Int32.ofNat A.slots.size), .int (Int32.ofNat 0), .ref b, .ref a])) rfl (by rw [hml]; rfl) c2 (argsL := [.ref b, .int (Int32.ofNat 0), .int (Int32.ofNat A.slots.size), .null]) (rest := []) rfl rfl (by show 2 * 0 + 0 ≤ _; decide) (hb hbytes d6) (⟨rfl, hB.mv X0.warmed.alike hh0, f1.al X0.warmed.alike, f2.al X0.warmed.alike, hA.mv X0.warmed.alike hh0, s1.there X0.warmed.alike hh0, hz, l0, by omega, l2, fun i hi => by rw [Nat.zero_add]; exact hp i hi⟩)
  have e0 := Got.mv _ s₁ s _ _ hh0.symm (Vm.Alike.refl _) rfl E3
  obtain rfl := e0.1
  have c4 : Steps p.tables e below (s₁.setTop (entryFrame m #[.ref a, .ref b] 2)) (T3.setTop (mkF m 9 #[.val (.ref a), .val (.ref b)] [])) := g3
  exact ⟨T3, none, _, _, _, X3, by simp, rfl, by omega, (fun _ => rfl), e0, fun fs hl => c4.trans (X3.returnOut hexec hret (hb hbytes d9) hl)⟩
theorem pays {l : Launch} {R : Room} {p : Program} {e : Env} {below : List Frame} {s : State} {sargs : Array Value} {len W : Nat} (a : Addr) (D : Cell) (fV fC : Field) (b : Addr) (A : Cell) (z : Int32) (htab : tab.before sargs s = true) (hfr : 4 ≤ R.frames) (hlo : W + 65 ≤ R.locals) :
    Back l R p e below s sargs yN len W (fun A₁ a₁ => A₁.cells + 1 ≤ R.cells ∧ A₁.slots + A.slots.size ≤ R.slots ∧ P a D fV fC b A z a₁ A₁.U) (fun A₁ _ v₁ B₁ => E a D fV fC A v₁ A₁.U B₁.U ∧ B₁.locs = A₁.locs ++ [⟨a, fC.slot⟩, ⟨a, fV.slot⟩] ∧ B₁.cells = A₁.cells + 1 ∧ B₁.slots = A₁.slots + A.slots.size) :=
  (law l a D fV fC b A z).pays htab hfr (by omega)
end New1
/-- the byte, read back as charAt reads it, is the char -/
theorem lo8_mask {x : Int32} (h0 : ¬ x < 0) (h1 : ¬ 255 < x) : lo8 x &&& 255 = x := by
  have t : ∀ k : Fin 256, lo8 (Int32.ofNat k.val) &&& 255 = Int32.ofNat k.val := by decide +kernel
  rw [Int32.lt_iff_toInt_lt] at h0 h1
  have e0 : (0 : Int32).toInt = 0 := rfl
  have e1 : (255 : Int32).toInt = 255 := rfl
  obtain ⟨k, hk⟩ : ∃ k : Nat, x.toInt = k := ⟨x.toInt.toNat, by omega⟩
  have hx : x = Int32.ofNat k := Int32.toInt_inj.mp (by rw [hk, Int32.toInt_ofNat_small (by omega)])
  rw [hx]
  exact t ⟨k, by omega⟩
end StrChars
namespace StrChars.Road
open Jvm Sem ClassFile Op Lib Jvm.Stand Jvm.Free Jvm.Free.XT
open Jvm.Lib.Cold (StaticIs)
abbrev ST : String := "java/lang/String"
/-- every table word that New1's law asks, flat -/
abbrev words : List Jvm.Cond := [.code New1.yN New1.yB 2 none, .initialized ST, .methodLink ST 27 New4.yN, .instanceMethod New4.yN,
  .code New4.yN New4.yB 6 none, .fieldLink ST 38 ST "COMPACT_STRINGS" "Z", .laysFinal ST ST "value" "[B", .fieldLink ST 9 ST "value" "[B", .laysFinal ST ST "coder" "B", .fieldLink ST 15 ST "coder" "B",
  .methodLink ST 1 Lib.objectInit, .instanceMethod Lib.objectInit, .code Lib.objectInit ⟨#[0xb1]⟩ 1 none, .methodLink ST 177 Cmp3.yN, .static Cmp3.yN, .methodLink ST 47 CodL.yN, .static CodL.yN,
  .code Cmp3.yN Cmp3.yB 6 (some (.array .byte)), .initialized U16, .arrayClass .byte, .methodLink U16 115 Cmp5.yN, .static Cmp5.yN, .code Cmp5.yN Cmp5.yB 7 (some .int), .code CodL.yN CodL.yB 2 (some .byte)]
theorem tab_of {a : Array Value} {s : State} (h : ∀ w ∈ words, w.before a s = true) : New1.tab.before a s = true := by
  have h5 : Cmp5.tab.before a s = true := unparts (wk h (.code Cmp5.yN Cmp5.yB 7 (some .int))) (wks h (.initialized Cmp5.yN.cls :: Cmp5.site))
  have hc : CodL.tab.before a s = true := unparts (wk h (.code CodL.yN CodL.yB 2 (some .byte))) (wks h (.initialized CodL.yN.cls :: CodL.site))
  have q5 : ∀ w ∈ Cmp5.tab :: words, w.before a s = true := fun w hw => (List.mem_cons.mp hw).elim (fun e => e ▸ h5) (h w)
  have h3 : Cmp3.tab.before a s = true := unparts (wk q5 (.code Cmp3.yN Cmp3.yB 6 (some (.array .byte)))) (wks q5 (.initialized Cmp3.yN.cls :: Cmp3.site))
  have q3 : ∀ w ∈ Cmp3.tab :: CodL.tab :: words, w.before a s = true := fun w hw => (List.mem_cons.mp hw).elim (fun e => e ▸ h3) fun hw => (List.mem_cons.mp hw).elim (fun e => e ▸ hc) (h w)
  have h4 : New4.tab.before a s = true := unparts (wk q3 (.code New4.yN New4.yB 6 none)) (wks q3 (.initialized New4.yN.cls :: New4.site))
  have q4 : ∀ w ∈ New4.tab :: words, w.before a s = true := fun w hw => (List.mem_cons.mp hw).elim (fun e => e ▸ h4) (h w)
  exact unparts (wk q4 (.code New1.yN New1.yB 2 none)) (wks q4 (.initialized New1.yN.cls :: New1.site))
/-- the words ride from the start Z to the walk's own state -/
theorem moved {Z s : State} {a0 args : Array Value} (hZ : Z.Warmed39 s.vm) (hw : ∀ d ∈ words, d.before a0 Z = true) : ∀ d ∈ words, d.before args s = true := fun d hd => by
  have q := hw d hd
  have t : ∀ d ∈ words, d = .arrayClass .byte ∨ (d.onTables && d.keepsFace) = true := by decide +kernel
  rcases t d hd with rfl | t
  · exact RoadKit.mvA hZ q
  · exact RoadKit.mv hZ q t
/-- WHAT COMES BACK, over the tables of the start Z: h the heap at the call, h' behind it -/
def Q (Z : State) (x : Addr) (A : Cell) (h : Heap) (v : Option Value) (h' : Heap) (L : List Loc) : Prop := v = none ∧ (∀ y ∈ L, y.base = x) ∧ RoadKit.Keep h h' [x] ∧ h'.size = h.size + 1 ∧ RoadKit.Exa Z h' x ST ∧ RoadKit.Fld Z h' x ST "value" "[B" (.ref h.size) ∧ RoadKit.Fld Z h' x ST "coder" "B" (.int 0) ∧
  (∃ V : Cell, RoadKit.Arr Z h' h.size V .byte ∧ V.vm = .none ∧ Z.vm.findClass "[B" = some V.cls ∧ V.slots.size = A.slots.size ∧ ∀ j, j < A.slots.size → V.slots[j]? = some (.int (lo8 (cv A j)))) ∧
  ∀ (O n d : String) (w : Value), RoadKit.Fld Z h x O n d w → RoadKit.slotOf Z O n d ≠ RoadKit.slotOf Z ST "value" "[B" → RoadKit.slotOf Z O n d ≠ RoadKit.slotOf Z ST "coder" "B" → RoadKit.Fld Z h' x O n d w
/-- **new String(chars) AT A CALL, IN THE ROAD'S FORM**: for specialBack behind newO: x the fresh String, b the char[] with the cell A -/
theorem back {p : Program} {l : Launch} {e : Env} {R : Room} {s : State} {args : Array Value} {below : List Frame} {len W : Nat} {Z : State} {a0 : Array Value} {h : Heap} (hZ : Z.Warmed39 s.vm) (hw : ∀ d ∈ words, d.before a0 Z = true) {kI : Nat} (wi : (Jvm.Cond.instantiable ST kI).before a0 Z = true)
    {x b : Addr} {A : Cell} {z : Int32} {v0 c0 : Value} (E : RoadKit.Exa Z h x ST) (V : RoadKit.Fld Z h x ST "value" "[B" v0) (C : RoadKit.Fld Z h x ST "coder" "B" c0) (K : RoadKit.Arr Z h b A .char) (hty : Typed .char A) (S : RoadKit.Sta Z h ST "COMPACT_STRINGS" "Z" (.int z)) (hz : ¬ z = 0)
    (l0 : 0 < A.slots.size) (l2 : A.slots.size ≤ 536870912) (hp : ∀ i, i < A.slots.size → ¬ 255 < cv A i) (hfr : 4 ≤ R.frames) (hlo : W + 65 ≤ R.locals) :
    Back l R p e below s args New1.yN len W (fun P a => a = #[.ref x, .ref b] ∧ P.U.heap = h ∧ P.cells + 1 ≤ R.cells ∧ P.slots + A.slots.size ≤ R.slots)
      (fun P _ v B => ∃ L, Q Z x A h v B.U.heap L ∧ B.locs = P.locs ++ L ∧ B.cells = P.cells + 1 ∧ B.slots = P.slots + A.slots.size) := by
  intro m meth c P g ig mk a X hg hsize hdg hW hn hp'
  obtain ⟨rfl, rfl, r1, r2⟩ := hp'
  have al : Z.vm.Alike P.U.vm := hZ.alike.trans X.warmed.alike
  obtain ⟨D, cfV, kV, iV, fV, hD, gV, stV, knV, obV, asV, slV⟩ := id V
  obtain ⟨D', cfC, kC, iC, fC, hD', gC, stC, -, -, asC, slC⟩ := id C
  cases hD.symm.trans hD'
  obtain ⟨D2, kD, e1, e2, e3, e4, e5⟩ := id E
  cases hD.symm.trans e1
  obtain ⟨c2, k2, i1, i2, i3, -⟩ := Cond.instantiable_spec wi
  cases e2.symm.trans i1
  cases e3.symm.trans i2
  obtain ⟨kU, u1, u2⟩ := al.2.2 _ _ e3
  have hB : Blank ST x D P.U := ⟨hD, ⟨knV, fun q hq => by rw [hq] at obV; cases obV⟩, by rw [al.findClass]; exact e2, kU, u1, by rw [u2]; exact i3, by rw [u2]; exact e5 i3⟩
  have F1 : Found ST "value" "[B" fV P.U := ⟨SBG.found_only al ⟨cfV, kV, iV, gV⟩, stV⟩
  have F2 : Found ST "coder" "B" fC P.U := ⟨SBG.found_only al ⟨cfC, kC, iC, gC⟩, stC⟩
  have hA : Ch b A P.U := ⟨⟨K.1, State.isArrayOf_alike al K.2.1, K.2.2, by omega⟩, hty⟩
  have hS : StaticIs P.U ST "COMPACT_STRINGS" "Z" (.int z) := by
    obtain ⟨cfS, iS, kS, fS, st, cS, t1, t2, t3, t4, t5, t6, t7⟩ := S
    exact StaticIs.there (s := { Z with heap := P.U.heap }) ⟨cfS, iS, kS, fS, st, cS, t1, t2, t3, t4, t5, (fun q => by rw [q] at t6; cases t6), t7⟩ al rfl
  obtain ⟨v, B, X', ⟨⟨hv, E', V', q1, q2, q3, q4, q5, q6, q7, q8, q9, q10, q11⟩, hl, hc, hs⟩, st⟩ := New1.pays x D fV fC b A z (tab_of (moved hZ hw)) hfr hlo m meth c P g ig mk _ X hg hsize hdg hW hn ⟨r1, r2, rfl, hB, F1, F2, hA, hS, hz, l0, l2, hp⟩
  have al' : Z.vm.Alike B.U.vm := hZ.alike.trans X'.warmed.alike
  have hsz : E'.slots.size = D.slots.size := by
    obtain ⟨-, -, -, kB, w1, w2, w3⟩ := q1
    obtain ⟨kB', y1, y2⟩ := al'.2.2 _ _ e3
    rw [q2.2.1] at w1
    cases w1.symm.trans y1
    rw [w3, e5 i3, y2]
  refine ⟨v, B, X', ⟨_, ⟨hv, ?_, ⟨by omega, fun y cy hy hn' => q10 y cy (by simpa using hn') hy, fun y cy hy => ?_⟩, q11, ⟨E', _, q1.1, by rw [q2.2.1]; exact e2, by rw [q2.2.1]; exact e3, by rw [q2.1]; exact obV, fun _ => by rw [hsz]; exact e5 i3⟩,
    ⟨E', cfV, kV, iV, fV, q1.1, gV, stV, by rw [q2.1]; exact knV, by rw [q2.1]; exact obV, by rw [q2.2.1]; exact asV, q3⟩, ⟨E', cfC, kC, iC, fC, q1.1, gC, stC, by rw [q2.1]; exact knV, by rw [q2.1]; exact obV, by rw [q2.2.1]; exact asC, q4⟩,
    ⟨V', ⟨q5.1, State.isArrayOf_alike al'.symm q5.2.1, q5.2.2.1⟩, q6, by rw [← al'.findClass]; exact q7, q8, fun j hj => by have := q9 j hj; rwa [Nat.zero_add] at this⟩, fun O n d w F n1 n2 => ?_⟩, hl, hc, hs⟩, st⟩
  · intro y hy
    simp only [List.mem_cons, List.not_mem_nil, or_false] at hy
    rcases hy with rfl | rfl <;> rfl
  · by_cases q : y = x
    · subst q
      cases hD.symm.trans hy
      exact ⟨E', q1.1, q2.2.1, q2.1, hsz⟩
    · exact ⟨cy, q10 y cy q hy, rfl, rfl, rfl⟩
  · obtain ⟨D3, cf, k, i, f, g1, g2, g3, g4, g5, g6, g7⟩ := F
    cases hD.symm.trans g1
    simp only [RoadKit.slotOf, g2, gV, gC, Option.map_some, Option.getD_some] at n1 n2
    exact ⟨E', cf, k, i, f, q1.1, g2, g3, by rw [q2.1]; exact g4, by rw [q2.1]; exact g5, by rw [q2.2.1]; exact g6, by rw [q2.2.2 f.slot (by simp [n1, n2])]; exact g7⟩
end StrChars.Road
namespace StrChars.Road
open Jvm Sem ClassFile Op Lib Jvm.Stand Jvm.Free Jvm.Free.XT
/-- WHAT COMES BACK, the byte[] as a list of values -/
def QA (Z : State) (x : Addr) (zn : Int32) (cs : List Int32) (h : Heap) (v : Option Value) (h' : Heap) (L : List Loc) : Prop := v = none ∧ (∀ y ∈ L, y.base = x) ∧ RoadKit.Keep h h' [x] ∧ h'.size = h.size + 1 ∧ RoadKit.Exa Z h' x ST ∧ RoadKit.Fld Z h' x ST "value" "[B" (.ref h.size) ∧ RoadKit.Fld Z h' x ST "coder" "B" (.int 0) ∧
  (∃ kb, Z.vm.findClass "[B" = some kb ∧ RoadKit.Arv Z h' h.size kb .byte zn (cs.map fun c => .int (lo8 c)) (.int 0)) ∧
  ∀ (O n d : String) (w : Value), RoadKit.Fld Z h x O n d w → RoadKit.slotOf Z O n d ≠ RoadKit.slotOf Z ST "value" "[B" → RoadKit.slotOf Z O n d ≠ RoadKit.slotOf Z ST "coder" "B" → RoadKit.Fld Z h' x O n d w
/-- **new String(chars) AT A CALL, THE ARRAYS AS LISTS**: the char[] at b holds cs, not empty, no char above 255 -/
theorem backArv {p : Program} {l : Launch} {e : Env} {R : Room} {s : State} {args : Array Value} {below : List Frame} {len W : Nat} {Z : State} {a0 : Array Value} {h : Heap} (hZ : Z.Warmed39 s.vm) (hw : ∀ d ∈ words, d.before a0 Z = true) {kI : Nat} (wi : (Jvm.Cond.instantiable ST kI).before a0 Z = true)
    {x b : Addr} {k : ClassId} {zn z : Int32} {cs : List Int32} {dv v0 c0 : Value} (E : RoadKit.Exa Z h x ST) (V : RoadKit.Fld Z h x ST "value" "[B" v0) (C : RoadKit.Fld Z h x ST "coder" "B" c0) (K : RoadKit.Arv Z h b k .char zn (cs.map Value.int) dv) (S : RoadKit.Sta Z h ST "COMPACT_STRINGS" "Z" (.int z)) (hz : ¬ z = 0)
    (hlen : zn.toNatClampNeg = cs.length) (h0 : 0 < cs.length) (hbig : cs.length ≤ 536870912) (hall : ∀ c ∈ cs, ¬ 255 < c) (hfr : 4 ≤ R.frames) (hlo : W + 65 ≤ R.locals) :
    Back l R p e below s args New1.yN len W (fun P a => a = #[.ref x, .ref b] ∧ P.U.heap = h ∧ P.cells + 1 ≤ R.cells ∧ P.slots + cs.length ≤ R.slots)
      (fun P _ v B => ∃ L, QA Z x zn cs h v B.U.heap L ∧ B.locs = P.locs ++ L ∧ B.cells = P.cells + 1 ∧ B.slots = P.slots + cs.length) := by
  obtain ⟨A, K1, K2, K3, K4, K5, K6⟩ := K
  have e : A.slots.size = cs.length := K3.trans hlen
  have hat : ∀ (i : Nat) (hi : i < cs.length), A.slots[i]? = some (.int cs[i]) := fun i hi => by rw [K5 i (by omega)]; simp [List.getD_eq_getElem?_getD, hi]
  have hcv : ∀ (i : Nat) (hi : i < cs.length), cv A i = cs[i] := fun i hi => by unfold cv; rw [hat i hi]
  have hty : Typed .char A := fun i v hv => by
    have hi : i < A.slots.size := (Array.getElem?_eq_some_iff.mp hv).1
    have q := K5 i hi
    rw [hv] at q
    rw [Option.some.inj q]
    exact K6 i hi
  refine Back.mono (back hZ hw wi E V C K1 hty S hz (by omega) (by omega) (fun i hi => by rw [hcv i (by omega)]; exact hall _ (List.getElem_mem _)) hfr hlo) (fun P a hp => ⟨hp.1, hp.2.1, hp.2.2.1, by rw [e]; exact hp.2.2.2⟩) (fun P a v B hp hq => ?_)
  obtain ⟨L, ⟨q1, q2, q3, q4, q5, q6, q7, ⟨V', v1, v2, v3, v4, v5⟩, q9⟩, hl, hc, hs⟩ := hq
  refine ⟨L, ⟨q1, q2, q3, q4, q5, q6, q7, ⟨V'.cls, v3, V', v1, rfl, by rw [v4, e, hlen], K4, fun i hi => ?_, fun i hi => ?_⟩, q9⟩, hl, hc, by rw [hs, e]⟩
  · have hi' : i < cs.length := by omega
    rw [v5 i (by omega), hcv i hi']; simp [List.getD_eq_getElem?_getD, hi']
  · have hi' : i < cs.length := by omega
    simp only [List.getD_eq_getElem?_getD, List.getElem?_map, List.getElem?_eq_getElem hi', Option.map_some, Option.getD_some]
    exact fits_lo8 _
end StrChars.Road
namespace StrChars.Road
open Jvm Sem ClassFile Op Lib Jvm.Stand Jvm.Free Jvm.Free.XT
/-- WHAT COMES BACK, in the writer's own shape -/
def QV (Z : State) (x : Addr) (N : Int32) (bs : List Int32) (h : Heap) (n0 : Nat) (v : Option Value) (h' : Heap) (L : List Loc) : Prop := v = none ∧ RoadKit.Fr n0 L ∧ RoadKit.Keep h h' [x] ∧ RoadKit.Exa Z h' x ST ∧ RoadKit.Fld Z h' x ST "coder" "B" (.int 0) ∧
  ∃ (t : Addr) (kb : ClassId), n0 ≤ t ∧ h.size ≤ t ∧ ¬ t = x ∧ RoadKit.Fld Z h' x ST "value" "[B" (.ref t) ∧ RoadKit.Arv Z h' t kb .byte N (bs.map Value.int) (.int 0)
/-- **new String(chars) AT A CALL, FOR THE WRITER**: a char[] of n known ints, each 0 to 255 -/
theorem backV {p : Program} {l : Launch} {e : Env} {R : Room} {s : State} {args : Array Value} {below : List Frame} {len W : Nat} {Z : State} {a0 : Array Value} {h : Heap} (hZ : Z.Warmed39 s.vm) (hw : ∀ d ∈ words, d.before a0 Z = true) {kI : Nat} (wi : (Jvm.Cond.instantiable ST kI).before a0 Z = true)
    {x b : Addr} {kC : ClassId} {cs bs : List Int32} {d v0 c0 : Value} {z N : Int32} {n n0 : Nat} (hx0 : n0 ≤ x) (hh0 : n0 ≤ h.size) (E : RoadKit.Exa Z h x ST) (V : RoadKit.Fld Z h x ST "value" "[B" v0) (C : RoadKit.Fld Z h x ST "coder" "B" c0) (K : RoadKit.Arv Z h b kC .char N (cs.map Value.int) d) (S : RoadKit.Sta Z h ST "COMPACT_STRINGS" "Z" (.int z)) (hz : ¬ z = 0)
    (hn : cs.length = n) (hN : N = Int32.ofNat n) (l0 : 0 < n) (l2 : n ≤ 4000) (hp : ∀ c ∈ cs, ¬ c < 0 ∧ ¬ (255 : Int32) < c) (hb : bs = cs.map (fun c => c.toInt8.toInt32)) (hfr : 4 ≤ R.frames) (hlo : W + 65 ≤ R.locals) :
    Back l R p e below s args (⟨"java/lang/String", "<init>", "([C)V"⟩ : MethodName) len W (fun P a => a = #[.ref x, .ref b] ∧ P.U.heap = h ∧ P.cells + 1 ≤ R.cells ∧ P.slots + n ≤ R.slots)
      (fun P _ v B => ∃ L, QV Z x N bs h n0 v B.U.heap L ∧ B.locs = P.locs ++ L ∧ B.cells = P.cells + 1 ∧ B.slots = P.slots + n) := by
  subst hn hN hb
  refine Back.mono (backArv hZ hw wi E V C K S hz (n32 (by omega)) l0 (by omega) (fun c hc => (hp c hc).2) hfr hlo) (fun P a hp => hp) (fun P a v B hp hq => ?_)
  obtain ⟨L, ⟨q1, q2, q3, q4, q5, q6, q7, ⟨kb, v1, v2⟩, q9⟩, hl, hc, hs⟩ := hq
  exact ⟨L, ⟨q1, fun y hy => by rw [q2 y hy]; exact hx0, q3, q5, q7, h.size, kb, hh0, Nat.le_refl _, Nat.ne_of_gt E.lt, q6, by rw [List.map_map]; exact v2⟩, hl, hc, hs⟩
end StrChars.Road
namespace StrChars
open Jvm Sem ClassFile Op Lib Jvm.Stand Jvm.Free.XT Jvm.Free.ALB Jvm.Free.JM Jvm.Free
open Jvm.Lib.Cold (StaticIs)
def hi8 (x : Int32) : Int32 := lo8 (x >>> ((8 : Int32) &&& 31))
/-- what StringUTF16.getChar makes of two bytes -/
def pairCh (u v : Int32) : Int32 := (((u &&& 255) <<< ((0 : Int32) &&& 31)) ||| ((v &&& 255) <<< ((8 : Int32) &&& 31))).toUInt32.toUInt16.toUInt32.toInt32
theorem shr0 (c : Int32) : c >>> ((0 : Int32) &&& 31) = c := by
  have e : ((0 : Int32) &&& 31) = 0 := by decide
  rw [e]
  apply Int32.toBitVec_inj.mp
  rw [Int32.toBitVec_shiftRight]
  have e1 : ((0 : Int32).toBitVec.smod 32) = 0#32 := by decide
  rw [e1, BitVec.sshiftRight_eq']
  exact BitVec.sshiftRight_zero
theorem lo8_and (x : Int32) : (lo8 x &&& 255).toBitVec.toNat = x.toBitVec.toNat % 256 := by
  have h : (lo8 x).toBitVec = (x.toBitVec.signExtend 8).signExtend 32 := by rw [lo8, Int8.toBitVec_toInt32, Int32.toBitVec_toInt8]
  rw [Int32.toBitVec_and, BitVec.toNat_and, h]
  have e : ((x.toBitVec.signExtend 8).signExtend 32).toNat % 256 = x.toBitVec.toNat % 256 := by
    rw [BitVec.toNat_signExtend]
    have hlt := x.toBitVec.isLt
    simp only [BitVec.toNat_setWidth, BitVec.toNat_signExtend]
    split <;> split <;> omega
  rw [← e]
  exact Nat.and_two_pow_sub_one_eq_mod _ 8
theorem pair_says {c : Int32} (h0 : ¬ c < 0) (h1 : ¬ 65535 < c) : pairCh (lo8 c) (hi8 c) = c := by
  rw [Int32.lt_iff_toInt_lt] at h0 h1
  have e0 : (0 : Int32).toInt = 0 := rfl
  have e1 : (65535 : Int32).toInt = 65535 := rfl
  have hc : c.toInt = c.toBitVec.toNat := by
    have := c.toBitVec.isLt
    have e : c.toInt = c.toBitVec.toInt := rfl
    rw [e] at h0 h1
    rw [e]
    rw [BitVec.toInt_eq_toNat_cond] at h0 h1 ⊢
    split at h0 <;> split <;> omega
  have hn : c.toBitVec.toNat < 65536 := by omega
  have a1 := lo8_and c
  have a2 : (hi8 c &&& 255).toBitVec.toNat = c.toBitVec.toNat / 256 := by
    rw [hi8, lo8_and]
    have e : ((8 : Int32) &&& 31) = 8 := by decide
    rw [e, Int32.toBitVec_shiftRight]
    have e2 : ((8 : Int32).toBitVec.smod 32) = 8#32 := by decide
    rw [e2, BitVec.sshiftRight_eq', BitVec.toNat_sshiftRight_of_msb_false (by rw [BitVec.msb_eq_false_iff_two_mul_lt]; omega)]
    show c.toBitVec.toNat >>> 8 % 256 = _
    rw [Nat.shiftRight_eq_div_pow]
    omega
  unfold pairCh
  apply Int32.toBitVec_inj.mp
  apply BitVec.eq_of_toNat_eq
  have f0 : ((0 : Int32) &&& 31) = 0 := by decide
  have f8 : ((8 : Int32) &&& 31) = 8 := by decide
  rw [f0, f8]
  have g : (((lo8 c &&& 255) <<< (0 : Int32)) ||| ((hi8 c &&& 255) <<< (8 : Int32))).toBitVec.toNat = c.toBitVec.toNat := by
    rw [Int32.toBitVec_or, Int32.toBitVec_shiftLeft, Int32.toBitVec_shiftLeft]
    have s0 : ((0 : Int32).toBitVec.smod 32) = 0#32 := by decide
    have s8 : ((8 : Int32).toBitVec.smod 32) = 8#32 := by decide
    rw [s0, s8, BitVec.toNat_or]
    simp only [BitVec.shiftLeft_eq', BitVec.toNat_shiftLeft, a1, a2]
    show (c.toBitVec.toNat % 256) <<< 0 % 2 ^ 32 ||| (c.toBitVec.toNat / 256) <<< 8 % 2 ^ 32 = _
    rw [Nat.shiftLeft_zero, Nat.mod_eq_of_lt (show c.toBitVec.toNat % 256 < 2 ^ 32 by omega), Nat.mod_eq_of_lt (show (c.toBitVec.toNat / 256) <<< 8 < 2 ^ 32 by rw [Nat.shiftLeft_eq]; omega), Nat.or_comm, ← Nat.shiftLeft_add_eq_or_of_lt (by omega), Nat.shiftLeft_eq]
    omega
  show BitVec.toNat (((((lo8 c &&& 255) <<< (0 : Int32)) ||| ((hi8 c &&& 255) <<< (8 : Int32))).toBitVec.setWidth 16).setWidth 32) = _
  rw [BitVec.toNat_setWidth, BitVec.toNat_setWidth, g]
  omega
end StrChars
namespace StrChars
open Jvm Sem ClassFile Op Lib Jvm.Stand Jvm.Free.XT Jvm.Free.ALB Jvm.Free.JM Jvm.Free
open Jvm.Lib.Cold (StaticIs)
theorem shr1 {n : Nat} (h : 2 * n < 2 ^ 31) : Int32.ofNat (2 * n) >>> ((1 : Int32) &&& 31) = Int32.ofNat n := by
  have e : ((1 : Int32) &&& 31) = 1 := by decide
  rw [e]
  apply Int32.toBitVec_inj.mp
  rw [Int32.toBitVec_shiftRight]
  have e1 : ((1 : Int32).toBitVec.smod 32) = 1#32 := by decide
  have hm : (BitVec.ofNat 32 (2 * n)).toNat = 2 * n := by rw [BitVec.toNat_ofNat, Nat.mod_eq_of_lt (by omega)]
  rw [e1, BitVec.sshiftRight_eq']
  apply BitVec.eq_of_toNat_eq
  show ((BitVec.ofNat 32 (2 * n)).sshiftRight 1).toNat = (BitVec.ofNat 32 n).toNat
  rw [BitVec.toNat_sshiftRight_of_msb_false (by rw [BitVec.msb_eq_false_iff_two_mul_lt, hm]; omega), hm, BitVec.toNat_ofNat, Nat.shiftRight_eq_div_pow]
  omega
/-- charAt's cast of a byte read back -/
def chr8 (u : Int32) : Int32 := (u &&& 255).toUInt32.toUInt16.toUInt32.toInt32
theorem chr8_lo8 {c : Int32} (h0 : ¬ c < 0) (h1 : ¬ 255 < c) : chr8 (lo8 c) = c := by
  have t : ∀ k : Fin 256, (Int32.ofNat k.val).toUInt32.toUInt16.toUInt32.toInt32 = Int32.ofNat k.val := by decide +kernel
  unfold chr8
  rw [lo8_mask h0 h1]
  rw [Int32.lt_iff_toInt_lt] at h0 h1
  have e0 : (0 : Int32).toInt = 0 := rfl
  have e1 : (255 : Int32).toInt = 255 := rfl
  obtain ⟨k, hk⟩ : ∃ k : Nat, c.toInt = k := ⟨c.toInt.toNat, by omega⟩
  have hx : c = Int32.ofNat k := Int32.toInt_inj.mp (by rw [hk, Int32.toInt_ofNat_small (by omega)])
  rw [hx]
  exact t ⟨k, by omega⟩
theorem narrow_ch {c : Int32} (h0 : ¬ c < 0) (h1 : ¬ 65535 < c) : narrow .char (.int c) = .int c := by
  have q : narrow .char (.int (pairCh (lo8 c) (hi8 c))) = .int (pairCh (lo8 c) (hi8 c)) := narrow_c _
  rwa [pair_says h0 h1] at q
/-- the array's cell V codes the n chars f 0 .. f (n - 1) by the coder cd, as the JDK does: coder 1 just where some char is above 255 -/
def Cod (cd : Int32) (n : Nat) (f : Nat → Int32) (V : Cell) : Prop := (cd = 0 ∧ V.slots.size = n ∧ ∀ j, j < n → V.slots[j]? = some (.int (lo8 (f j))) ∧ ¬ 255 < f j) ∨ (cd = 1 ∧ V.slots.size = 2 * n ∧ (∀ j, j < n → V.slots[2 * j]? = some (.int (lo8 (f j))) ∧ V.slots[2 * j + 1]? = some (.int (hi8 (f j)))) ∧ ∃ j, j < n ∧ 255 < f j)
theorem Cod.cd {cd : Int32} {n : Nat} {f : Nat → Int32} {V : Cell} (h : Cod cd n f V) : cd = 0 ∨ cd = 1 := h.imp (fun q => q.1) fun q => q.1
theorem Cod.len {cd : Int32} {n : Nat} {f : Nat → Int32} {V : Cell} (h : Cod cd n f V) (hs : V.slots.size < 2 ^ 31) : Int32.ofNat V.slots.size >>> (cd &&& 31) = Int32.ofNat n := by
  rcases h with ⟨rfl, h, -⟩ | ⟨rfl, h, -⟩
  · rw [shr0, h]
  · rw [h, shr1 (by omega)]
/-- **x is a String of the n chars f 0 .. f (n - 1)**, Latin-1 or UTF-16; its array at t has the cell V -/
def Txt (x t : Addr) (V : Cell) (cd : Int32) (n : Nat) (f : Nat → Int32) (U : State) : Prop := Exact "java/lang/String" x U ∧ Has x "java/lang/String" "value" "[B" (.ref t) U ∧ Has x "java/lang/String" "coder" "B" (.int cd) U ∧ XT.Arr .byte t V U ∧ Cod cd n f V ∧ ∀ j, j < n → ¬ f j < 0 ∧ ¬ 65535 < f j
theorem Txt.mv {x t : Addr} {V : Cell} {cd : Int32} {n : Nat} {f : Nat → Int32} {U U' : State} (h : Txt x t V cd n f U) (hal : U.vm.Alike U'.vm) (hh : U'.heap = U.heap) : Txt x t V cd n f U' := ⟨h.1.mv hal hh, h.2.1.mv hal hh, h.2.2.1.mv hal hh, h.2.2.2.1.mv hal hh, h.2.2.2.2⟩
namespace Cdr
def yN : MethodName := ⟨"java/lang/String", "coder", "()B"⟩
abbrev yB : ByteArray := jdk_42_method_152_code
theorem d0 : decode yB 0 = .ok (.getstatic 38, 3) := by decide +kernel
theorem d3 : decode yB 3 = .ok (.ifCond (.eq) 10, 3) := by decide +kernel
theorem d6 : decode yB 6 = .ok (.aload_n 0, 1) := by decide +kernel
theorem d7 : decode yB 7 = .ok (.getfield 15, 3) := by decide +kernel
theorem d10 : decode yB 10 = .ok (.goto 4, 3) := by decide +kernel
theorem d14 : decode yB 14 = .ok (.ireturn, 1) := by decide +kernel
def site : List Cond := [.fieldLink "java/lang/String" 38 "java/lang/String" "COMPACT_STRINGS" "Z", .fieldLink "java/lang/String" 15 "java/lang/String" "coder" "B"]
def tab : Cond := tabOf yN yB 1 (some .byte) site
def P (x : Addr) (cd z : Int32) (args : Array Value) (s : State) : Prop := args = #[.ref x] ∧ Has x "java/lang/String" "coder" "B" (.int cd) s ∧ (cd = 0 ∨ cd = 1) ∧ StaticIs s "java/lang/String" "COMPACT_STRINGS" "Z" (.int z) ∧ ¬ z = 0
def E (cd : Int32) (r : Option Value) (s u : State) : Prop := XT.PureE (some (.int cd)) r s u
theorem law (l : Launch) (x : Addr) (cd z : Int32) : Law l yN 1 0 0 0 yB 1 (some .byte) site (P x cd z) (E cd) [] 0 0 := by
  refine Law.of_walk (plainFor_of_name (by decide +kernel)) (by decide +kernel) (by decide +kernel) (by decide) (fun _ _ h => by rw [h.1]; rfl) (fun _ U U' hal hh h => ⟨h.1, h.2.1.mv hal hh, h.2.2.1, h.2.2.2.1.there hal hh, h.2.2.2.2⟩) (fun r U U' V V' h1 hal h2 h => XT.PureE.mv r U U' V V' h1 hal h2 h) ?_
  intro p e s m args below meth c s₁ X0 hexec hbytes hml hret hlk hnm hown hh0 W hP
  obtain ⟨rfl, hx, hc, s1, hz⟩ := hP
  have c1 : Steps p.tables e below (s₁.setTop (entryFrame m #[.ref x] 1)) (s₁.setTop (mkF m 0 #[.val (.ref x)] [])) := entry rfl
  obtain ⟨T2, X2, q2, st2⟩ := X0.sget hexec hown (wk W (.fieldLink "java/lang/String" 38 "java/lang/String" "COMPACT_STRINGS" "Z")) s1 (fun _ _ h => by rw [hh0]; exact h) (g := (mkF m 0 #[.val (.ref x)] [])) rfl (hb hbytes d0)
  have hh2 := q2.trans hh0
  have c3 : Steps p.tables e below (s₁.setTop (entryFrame m #[.ref x] 1)) (T2.setTop (mkF m 7 #[.val (.ref x)] [.ref x])) := (c1.trans (st2 _ (Steps.refl _))).trans (by
    refine XS.ifNo X2.here hexec rfl (hb hbytes d3) rfl (i0_eq_f hz) ?_
    refine XS.aloadN X2.here hexec rfl (hb hbytes d6) rfl rfl ?_
    exact Steps.refl _)
  obtain ⟨T4, X4, q4, st4⟩ := X2.hget hexec hown (wk W (.fieldLink "java/lang/String" 15 "java/lang/String" "coder" "B")) (hx.mv X2.warmed.alike hh2) (g := (mkF m 7 #[.val (.ref x)] [.ref x])) rfl (rest := []) rfl (hb hbytes d7)
  have c5 : Steps p.tables e below (s₁.setTop (entryFrame m #[.ref x] 1)) (T4.setTop (mkF m 14 #[.val (.ref x)] [.int cd])) := (c3.trans (st4 _ (Steps.refl _))).trans (by
    refine XS.goto X4.here hexec rfl (pc0 := 10) rfl (hb hbytes d10) (by decide) rfl ?_
    exact Steps.refl _)
  exact ⟨T4, some (.int cd), _, _, _, X4, rfl, rfl, rfl, (fun h => by cases h), ⟨rfl, q4.trans hh2⟩, fun fs hl => c5.trans (X4.ireturnOut hexec hret (by rcases hc with rfl | rfl <;> rfl) (Or.inr (Or.inr (Or.inl rfl))) (hb hbytes d14) hl)⟩
end Cdr
namespace Len
def yN : MethodName := ⟨"java/lang/String", "length", "()I"⟩
abbrev yB : ByteArray := jdk_42_method_54_code
theorem d0 : decode yB 0 = .ok (.aload_n 0, 1) := by decide +kernel
theorem d1 : decode yB 1 = .ok (.getfield 9, 3) := by decide +kernel
theorem d4 : decode yB 4 = .ok (.arraylength, 1) := by decide +kernel
theorem d5 : decode yB 5 = .ok (.aload_n 0, 1) := by decide +kernel
theorem d6 : decode yB 6 = .ok (.invokevirtual 335, 3) := by decide +kernel
theorem d9 : decode yB 9 = .ok (.ishr, 1) := by decide +kernel
theorem d10 : decode yB 10 = .ok (.ireturn, 1) := by decide +kernel
def site : List Cond := [.fieldLink "java/lang/String" 9 "java/lang/String" "value" "[B", Cdr.tab] ++ virtW "java/lang/String" 335 "java/lang/String" Cdr.yN Cdr.yN
def tab : Cond := tabOf yN yB 1 (some .int) site
def P (x t : Addr) (V : Cell) (cd : Int32) (n : Nat) (f : Nat → Int32) (z : Int32) (args : Array Value) (s : State) : Prop := args = #[.ref x] ∧ Txt x t V cd n f s ∧ StaticIs s "java/lang/String" "COMPACT_STRINGS" "Z" (.int z) ∧ ¬ z = 0
def E (n : Nat) (r : Option Value) (s u : State) : Prop := XT.PureE (some (.int (Int32.ofNat n))) r s u
/-- length() of a String of n chars, in either coding -/
theorem law (l : Launch) (x t : Addr) (V : Cell) (cd : Int32) (n : Nat) (f : Nat → Int32) (z : Int32) : Law l yN 1 0 1 13 yB 1 (some .int) site (P x t V cd n f z) (E n) [] 0 0 := by
  refine Law.of_walk (plainFor_of_name (by decide +kernel)) (by decide +kernel) (by decide +kernel) (by decide) (fun _ _ h => by rw [h.1]; rfl) (fun _ U U' hal hh h => ⟨h.1, h.2.1.mv hal hh, h.2.2.1.there hal hh, h.2.2.2⟩) (fun r U U' V V' h1 hal h2 h => XT.PureE.mv r U U' V V' h1 hal h2 h) ?_
  intro p e s m args below meth c s₁ X0 hexec hbytes hml hret hlk hnm hown hh0 W hP
  obtain ⟨rfl, hx, s1, hz⟩ := hP
  have v31 := hx.2.2.2.1.2.2.2
  have c1 : Steps p.tables e below (s₁.setTop (entryFrame m #[.ref x] 1)) (s₁.setTop (mkF m 1 #[.val (.ref x)] [.ref x])) := Steps.trans (entry rfl) (by
    show Steps p.tables e below (s₁.setTop (mkF m 0 #[.val (.ref x)] [])) _
    refine XS.aloadN X0.here hexec rfl (hb hbytes d0) rfl rfl ?_
    exact Steps.refl _)
  obtain ⟨T2, X2, q2, st2⟩ := X0.hget hexec hown (wk W (.fieldLink "java/lang/String" 9 "java/lang/String" "value" "[B")) (hx.mv X0.warmed.alike hh0).2.1 (g := (mkF m 1 #[.val (.ref x)] [.ref x])) rfl (rest := []) rfl (hb hbytes d1)
  have hh2 := q2.trans hh0
  have hx2 := hx.mv X2.warmed.alike hh2
  have c3 : Steps p.tables e below (s₁.setTop (entryFrame m #[.ref x] 1)) (T2.setTop (mkF m 6 #[.val (.ref x)] [.ref x, .int (Int32.ofNat V.slots.size)])) := (c1.trans (st2 _ (Steps.refl _))).trans (by
    refine X2.alen hexec hx2.2.2.2.1 rfl rfl (hb hbytes d4) ?_
    refine XS.aloadN X2.here hexec rfl (hb hbytes d5) rfl rfl ?_
    exact Steps.refl _)
  obtain ⟨v4, T4, X4, E4, g4⟩ := X2.callV hexec (Cdr.law l x cd z) hown (wks W (virtW "java/lang/String" 335 "java/lang/String" Cdr.yN Cdr.yN)) rfl (by decide) (wk W Cdr.tab) (W := 1) (Nat.le_of_ble_eq_true rfl) (Nat.le_of_ble_eq_true rfl) (Nat.le_refl _) (Nat.le_refl _) (hx2.1.fc X2.warmed.alike) hx2.1.is (g := (mkF m 6 #[.val (.ref x)] [.ref x, .int (Int32.ofNat V.slots.size)])) rfl (by rw [hml]; rfl) c3 (argsL := []) (rest := [.int (Int32.ofNat V.slots.size)]) rfl rfl (by show 2 * 0 + (1 + 0) ≤ _; decide) (hb hbytes d6) (⟨rfl, hx2.2.2.1, hx.2.2.2.2.1.cd, s1.there X2.warmed.alike hh2, hz⟩)
  obtain ⟨rfl, q4⟩ := E4
  have c5 : Steps p.tables e below (s₁.setTop (entryFrame m #[.ref x] 1)) (T4.setTop (mkF m 10 #[.val (.ref x)] [.int (Int32.ofNat V.slots.size >>> (cd &&& 31))])) := Steps.trans g4 (by
    refine ishr X4.here hexec rfl (hb hbytes d9) rfl ?_
    exact Steps.refl _)
  rw [hx.2.2.2.2.1.len v31] at c5
  exact ⟨T4, some (.int (Int32.ofNat n)), _, _, _, X4, rfl, rfl, rfl, (fun h => by cases h), ⟨rfl, q4.trans hh2⟩, fun fs hl => c5.trans (X4.ireturnOut hexec hret rfl (Or.inl rfl) (hb hbytes d10) hl)⟩
theorem pays {l : Launch} {R : Room} {p : Program} {e : Env} {below : List Frame} {s : State} {sargs : Array Value} {len W : Nat} (x t : Addr) (V : Cell) (cd : Int32) (n : Nat) (f : Nat → Int32) (z : Int32) (htab : tab.before sargs s = true) (hfr : 2 ≤ R.frames) (hlo : W + 25 ≤ R.locals) :
    Back l R p e below s sargs yN len W (fun A₁ a₁ => A₁.cells + 0 ≤ R.cells ∧ A₁.slots + 0 ≤ R.slots ∧ P x t V cd n f z a₁ A₁.U) (fun A₁ _ v₁ B₁ => E n v₁ A₁.U B₁.U ∧ B₁.locs = A₁.locs ++ [] ∧ B₁.cells = A₁.cells + 0 ∧ B₁.slots = A₁.slots + 0) :=
  (law l x t V cd n f z).pays htab hfr (by omega)
end Len
namespace IsL
def yN : MethodName := ⟨"java/lang/String", "isLatin1", "()Z"⟩
abbrev yB : ByteArray := jdk_42_method_154_code
theorem d0 : decode yB 0 = .ok (.getstatic 38, 3) := by decide +kernel
theorem d3 : decode yB 3 = .ok (.ifCond (.eq) 14, 3) := by decide +kernel
theorem d6 : decode yB 6 = .ok (.aload_n 0, 1) := by decide +kernel
theorem d7 : decode yB 7 = .ok (.getfield 15, 3) := by decide +kernel
theorem d10 : decode yB 10 = .ok (.ifCond (.ne) 7, 3) := by decide +kernel
theorem d13 : decode yB 13 = .ok (.iconst 1, 1) := by decide +kernel
theorem d14 : decode yB 14 = .ok (.goto 4, 3) := by decide +kernel
theorem d17 : decode yB 17 = .ok (.iconst 0, 1) := by decide +kernel
theorem d18 : decode yB 18 = .ok (.ireturn, 1) := by decide +kernel
def site : List Cond := [.fieldLink "java/lang/String" 38 "java/lang/String" "COMPACT_STRINGS" "Z", .fieldLink "java/lang/String" 15 "java/lang/String" "coder" "B"]
def tab : Cond := tabOf yN yB 1 (some .boolean) site
def P (x : Addr) (cd z : Int32) (args : Array Value) (s : State) : Prop := args = #[.ref x] ∧ Has x "java/lang/String" "coder" "B" (.int cd) s ∧ (cd = 0 ∨ cd = 1) ∧ StaticIs s "java/lang/String" "COMPACT_STRINGS" "Z" (.int z) ∧ ¬ z = 0
def E (cd : Int32) (r : Option Value) (s u : State) : Prop := XT.PureE (some (.int (1 - cd))) r s u
theorem law (l : Launch) (x : Addr) (cd z : Int32) : Law l yN 1 0 0 0 yB 1 (some .boolean) site (P x cd z) (E cd) [] 0 0 := by
  refine Law.of_walk (plainFor_of_name (by decide +kernel)) (by decide +kernel) (by decide +kernel) (by decide) (fun _ _ h => by rw [h.1]; rfl) (fun _ U U' hal hh h => ⟨h.1, h.2.1.mv hal hh, h.2.2.1, h.2.2.2.1.there hal hh, h.2.2.2.2⟩) (fun r U U' V V' h1 hal h2 h => XT.PureE.mv r U U' V V' h1 hal h2 h) ?_
  intro p e s m args below meth c s₁ X0 hexec hbytes hml hret hlk hnm hown hh0 W hP
  obtain ⟨rfl, hx, hc, s1, hz⟩ := hP
  have c1 : Steps p.tables e below (s₁.setTop (entryFrame m #[.ref x] 1)) (s₁.setTop (mkF m 0 #[.val (.ref x)] [])) := entry rfl
  obtain ⟨T2, X2, q2, st2⟩ := X0.sget hexec hown (wk W (.fieldLink "java/lang/String" 38 "java/lang/String" "COMPACT_STRINGS" "Z")) s1 (fun _ _ h => by rw [hh0]; exact h) (g := (mkF m 0 #[.val (.ref x)] [])) rfl (hb hbytes d0)
  have hh2 := q2.trans hh0
  have c3 : Steps p.tables e below (s₁.setTop (entryFrame m #[.ref x] 1)) (T2.setTop (mkF m 7 #[.val (.ref x)] [.ref x])) := (c1.trans (st2 _ (Steps.refl _))).trans (by
    refine XS.ifNo X2.here hexec rfl (hb hbytes d3) rfl (i0_eq_f hz) ?_
    refine XS.aloadN X2.here hexec rfl (hb hbytes d6) rfl rfl ?_
    exact Steps.refl _)
  obtain ⟨T4, X4, q4, st4⟩ := X2.hget hexec hown (wk W (.fieldLink "java/lang/String" 15 "java/lang/String" "coder" "B")) (hx.mv X2.warmed.alike hh2) (g := (mkF m 7 #[.val (.ref x)] [.ref x])) rfl (rest := []) rfl (hb hbytes d7)
  have c5 : Steps p.tables e below (s₁.setTop (entryFrame m #[.ref x] 1)) (T4.setTop (mkF m 10 #[.val (.ref x)] [.int cd])) := c3.trans (st4 _ (Steps.refl _))
  have c6 : Steps p.tables e below (s₁.setTop (entryFrame m #[.ref x] 1)) (T4.setTop (mkF m 18 #[.val (.ref x)] [.int (1 - cd)])) := by
    rcases hc with rfl | rfl
    · exact c5.trans (by
        refine XS.ifNo X4.here hexec rfl (hb hbytes d10) rfl (i0_ne_f rfl) ?_
        refine iconstV X4.here hexec rfl 1 (hb hbytes d13) (by decide) ?_
        refine XS.goto X4.here hexec rfl (pc0 := 14) rfl (hb hbytes d14) (by decide) rfl ?_
        exact Steps.refl _)
    · exact c5.trans (by
        refine XS.ifYes X4.here hexec rfl (pc0 := 10) rfl (hb hbytes d10) rfl (i0_ne_t (by decide)) (by decide) rfl ?_
        refine iconstV X4.here hexec rfl 0 (hb hbytes d17) (by decide) ?_
        exact Steps.refl _)
  exact ⟨T4, some (.int (1 - cd)), _, _, _, X4, rfl, rfl, rfl, (fun h => by cases h), ⟨rfl, q4.trans hh2⟩, fun fs hl => c6.trans (X4.ireturnOut hexec hret (by rcases hc with rfl | rfl <;> rfl) (Or.inr (Or.inl rfl)) (hb hbytes d18) hl)⟩
end IsL
namespace LChA
def yN : MethodName := ⟨"java/lang/StringLatin1", "charAt", "([BI)C"⟩
abbrev yB : ByteArray := jdk_43_method_2_code
theorem d0 : decode yB 0 = .ok (.iload_n 1, 1) := by decide +kernel
theorem d1 : decode yB 1 = .ok (.aload_n 0, 1) := by decide +kernel
theorem d2 : decode yB 2 = .ok (.arraylength, 1) := by decide +kernel
theorem d3 : decode yB 3 = .ok (.invokestatic 9, 3) := by decide +kernel
theorem d6 : decode yB 6 = .ok (.aload_n 0, 1) := by decide +kernel
theorem d7 : decode yB 7 = .ok (.iload_n 1, 1) := by decide +kernel
theorem d8 : decode yB 8 = .ok (.baload, 1) := by decide +kernel
theorem d9 : decode yB 9 = .ok (.sipush 255, 3) := by decide +kernel
theorem d12 : decode yB 12 = .ok (.iand, 1) := by decide +kernel
theorem d13 : decode yB 13 = .ok (.i2c, 1) := by decide +kernel
theorem d14 : decode yB 14 = .ok (.ireturn, 1) := by decide +kernel
def site : List Cond := [JO.Str_checkIndex.tab] ++ staticW "java/lang/StringLatin1" 9 JO.Str_checkIndex.yN
def tab : Cond := tabOf yN yB 2 (some .char) site
def P (t : Addr) (V : Cell) (i : Nat) (u : Int32) (fm : Value) (args : Array Value) (s : State) : Prop := args = #[.ref t, .int (Int32.ofNat i)] ∧ XT.Arr .byte t V s ∧ V.slots[i]? = some (.int u) ∧ (StaticIs s "jdk/internal/util/Preconditions" "SIOOBE_FORMATTER" "Ljava/util/function/BiFunction;" fm ∧ fm.isRef = true)
def E (u : Int32) (r : Option Value) (s w : State) : Prop := XT.PureE (some (.int (chr8 u))) r s w
theorem law (l : Launch) (t : Addr) (V : Cell) (i : Nat) (u : Int32) (fm : Value) : Law l yN 2 2 2 27 yB 2 (some .char) site (P t V i u fm) (E u) [] 0 0 := by
  refine Law.of_walk (plainFor_of_name (by decide +kernel)) (by decide +kernel) (by decide +kernel) (by decide) (fun _ _ h => by rw [h.1]; rfl) (fun _ U U' hal hh h => ⟨h.1, h.2.1.mv hal hh, h.2.2.1, h.2.2.2.1.there hal hh, h.2.2.2.2⟩) (fun r U U' V V' h1 hal h2 h => XT.PureE.mv r U U' V V' h1 hal h2 h) ?_
  intro p e s m args below meth c s₁ X0 hexec hbytes hml hret hlk hnm hown hh0 W hP
  obtain ⟨rfl, hV, hu, s1, rf⟩ := hP
  have v31 := hV.2.2.2
  have hi : i < V.slots.size := (Array.getElem?_eq_some_iff.mp hu).1
  have c1 : Steps p.tables e below (s₁.setTop (entryFrame m #[.ref t, .int (Int32.ofNat i)] 2)) (s₁.setTop (mkF m 0 #[.val (.ref t), .val (.int (Int32.ofNat i))] [])) := entry rfl
  have c2 : Steps p.tables e below (s₁.setTop (entryFrame m #[.ref t, .int (Int32.ofNat i)] 2)) (s₁.setTop (mkF m 3 #[.val (.ref t), .val (.int (Int32.ofNat i))] [.int (Int32.ofNat V.slots.size), .int (Int32.ofNat i)])) := c1.trans (by
    refine XS.iloadN X0.here hexec rfl (hb hbytes d0) rfl ?_
    refine XS.aloadN X0.here hexec rfl (hb hbytes d1) rfl rfl ?_
    refine X0.alen hexec (hV.mv X0.warmed.alike hh0) rfl rfl (hb hbytes d2) ?_
    exact Steps.refl _)
  obtain ⟨v3, T3, X3, E3, g3⟩ := X0.callS hexec (JO.Str_checkIndex.law l (Int32.ofNat i) (Int32.ofNat V.slots.size) fm) hown (wks W (staticW "java/lang/StringLatin1" 9 JO.Str_checkIndex.yN)) (wk W JO.Str_checkIndex.tab) (W := 0) (Nat.le_of_ble_eq_true rfl) (Nat.le_of_ble_eq_true rfl) (Nat.le_refl _) (Nat.le_refl _) (g := (mkF m 3 #[.val (.ref t), .val (.int (Int32.ofNat i))] [.int (Int32.ofNat V.slots.size), .int (Int32.ofNat i)])) rfl (by rw [hml]; rfl) c2 (argsL := [.int (Int32.ofNat i), .int (Int32.ofNat V.slots.size)]) (rest := []) rfl rfl (by show 2 * 0 + 0 ≤ _; decide) (hb hbytes d3) (⟨rfl, rf, s1.there X0.warmed.alike hh0, Int32.ofNat_not_neg (by omega), lt32 v31 hi⟩)
  obtain ⟨rfl, q3⟩ := E3
  have hh3 := q3.trans hh0
  have c4 : Steps p.tables e below (s₁.setTop (entryFrame m #[.ref t, .int (Int32.ofNat i)] 2)) (T3.setTop (mkF m 14 #[.val (.ref t), .val (.int (Int32.ofNat i))] [.int (chr8 u)])) := Steps.trans g3 (by
    refine XS.aloadN X3.here hexec rfl (hb hbytes d6) rfl rfl ?_
    refine XS.iloadN X3.here hexec rfl (hb hbytes d7) rfl ?_
    refine X3.aget hexec (hV.mv X3.warmed.alike hh3) rfl hu rfl rfl (hb hbytes d8) ?_
    refine sipushV X3.here hexec rfl 255 (hb hbytes d9) (by decide) ?_
    refine XS.iand X3.here hexec rfl (hb hbytes d12) rfl ?_
    refine i2c X3.here hexec rfl (hb hbytes d13) rfl ?_
    exact Steps.refl _)
  exact ⟨T3, some (.int (chr8 u)), _, _, _, X3, rfl, rfl, rfl, (fun h => by cases h), ⟨rfl, hh3⟩, fun fs hl => c4.trans (X3.ireturnOut hexec hret (narrow_c _) (Or.inr (Or.inr (Or.inr (Or.inl rfl)))) (hb hbytes d14) hl)⟩
end LChA
end StrChars
namespace StrChars.Road
open Jvm Sem ClassFile Op Lib Jvm.Stand Jvm.Free Jvm.Free.XT
open Jvm.Lib.Cold (StaticIs)
theorem consq {a : Array Value} {s : State} {c : Jvm.Cond} {L : List Jvm.Cond} (h0 : c.before a s = true) (h : ∀ w ∈ L, w.before a s = true) : ∀ w ∈ c :: L, w.before a s = true := fun w hw => (List.mem_cons.mp hw).elim (fun e => e ▸ h0) (h w)
/-- the words of String.length(), either coding -/
abbrev wordsLen : List Jvm.Cond := [.code Len.yN Len.yB 1 (some .int), .initialized ST, .fieldLink ST 9 ST "value" "[B", .fieldLink ST 38 ST "COMPACT_STRINGS" "Z", .fieldLink ST 15 ST "coder" "B", .code Cdr.yN Cdr.yB 1 (some .byte), .methodLink ST 335 Cdr.yN, .declares Cdr.yN, .selects ST Cdr.yN Cdr.yN, .instanceMethod Cdr.yN]
theorem tabLen_of {a : Array Value} {s : State} (h : ∀ w ∈ wordsLen, w.before a s = true) : Len.tab.before a s = true := by
  have hc : Cdr.tab.before a s = true := unparts (wk h (.code Cdr.yN Cdr.yB 1 (some .byte))) (wks h (.initialized Cdr.yN.cls :: Cdr.site))
  have q := consq hc h
  exact unparts (wk q (.code Len.yN Len.yB 1 (some .int))) (wks q (.initialized Len.yN.cls :: Len.site))
theorem movedLen {Z s : State} {a0 args : Array Value} (hZ : Z.Warmed39 s.vm) (hw : ∀ d ∈ wordsLen, d.before a0 Z = true) : ∀ d ∈ wordsLen, d.before args s = true := fun d hd => by
  have q := hw d hd
  have t : ∀ d ∈ wordsLen, d = .arrayClass .byte ∨ (d.onTables && d.keepsFace) = true := by decide +kernel
  rcases t d hd with rfl | t
  · exact RoadKit.mvA hZ q
  · exact RoadKit.mv hZ q t
/-- the bytes of the chars cs, low before high -/
def wideBytes : List Int32 → List Value
  | [] => []
  | c :: cs => .int (lo8 c) :: .int (hi8 c) :: wideBytes cs
theorem wide_lo (d : Value) : ∀ (cs : List Int32) (j : Nat), j < cs.length → (wideBytes cs).getD (2 * j) d = .int (lo8 (cs.getD j 0))
  | [], j, h => absurd h (Nat.not_lt_zero j)
  | c :: cs, 0, _ => rfl
  | c :: cs, j + 1, h => by
    have q := wide_lo d cs j (by simpa using h)
    rw [show 2 * (j + 1) = 2 * j + 1 + 1 from by omega]
    simpa [wideBytes] using q
theorem wide_hi (d : Value) : ∀ (cs : List Int32) (j : Nat), j < cs.length → (wideBytes cs).getD (2 * j + 1) d = .int (hi8 (cs.getD j 0))
  | [], j, h => absurd h (Nat.not_lt_zero j)
  | c :: cs, 0, _ => rfl
  | c :: cs, j + 1, h => by
    have q := wide_hi d cs j (by simpa using h)
    rw [show 2 * (j + 1) + 1 = 2 * j + 1 + 1 + 1 from by omega]
    simpa [wideBytes] using q
theorem low_at (d : Value) (cs : List Int32) (j : Nat) (h : j < cs.length) : (cs.map fun c => Value.int (lo8 c)).getD j d = .int (lo8 (cs.getD j 0)) := by
  simp [List.getD_eq_getElem?_getD, h]
/-- an array of N2 bytes vs codes the chars cs by the coder cd -/
def CodA (cs : List Int32) (cd N2 : Int32) (vs : List Value) : Prop := (cd = 0 ∧ N2 = Int32.ofNat cs.length ∧ vs = (cs.map fun c => Value.int (lo8 c)) ∧ ∀ c ∈ cs, ¬ 255 < c) ∨ (cd = 1 ∧ N2 = Int32.ofNat (2 * cs.length) ∧ vs = wideBytes cs ∧ ∃ c ∈ cs, 255 < c)
theorem CodA.cod {cs : List Int32} {cd N2 : Int32} {vs : List Value} {V : Cell} (h : CodA cs cd N2 vs) (hn : 2 * cs.length < 2 ^ 31) (hs : V.slots.size = N2.toNatClampNeg) (hv : RoadKit.Has V vs (.int 0)) : Cod cd cs.length (fun j => cs.getD j 0) V := by
  rcases h with ⟨rfl, rfl, rfl, h⟩ | ⟨rfl, rfl, rfl, c, hc, hw⟩
  · rw [n32 (by omega)] at hs
    exact Or.inl ⟨rfl, hs, fun j hj => ⟨by rw [hv j (by omega), low_at _ _ _ hj], by
      have e : cs.getD j 0 = cs[j] := by simp [List.getD_eq_getElem?_getD, hj]
      show ¬ 255 < cs.getD j 0
      rw [e]; exact h _ (List.getElem_mem _)⟩⟩
  · rw [n32 (by omega)] at hs
    obtain ⟨j, hj, rfl⟩ := List.getElem_of_mem hc
    exact Or.inr ⟨rfl, hs, fun j hj => ⟨by rw [hv _ (by omega), wide_lo _ _ _ hj], by rw [hv _ (by omega), wide_hi _ _ _ hj]⟩, j, hj, by
      have e : cs.getD j 0 = cs[j] := by simp [List.getD_eq_getElem?_getD, hj]
      show 255 < cs.getD j 0
      rw [e]; exact hw⟩
/-- an object of exactly java/lang/String, its two fields found: as the laws ask it -/
theorem strObj {Z U : State} {a0 : Array Value} {kI : Nat} (wi : (Jvm.Cond.instantiable ST kI).before a0 Z = true) (al : Z.vm.Alike U.vm) {x : Addr} {v0 c0 : Value} (E : RoadKit.Exa Z U.heap x ST) (V : RoadKit.Fld Z U.heap x ST "value" "[B" v0) (C : RoadKit.Fld Z U.heap x ST "coder" "B" c0) :
    ∃ (D : Cell) (fV fC : Field), Blank ST x D U ∧ Found ST "value" "[B" fV U ∧ Found ST "coder" "B" fC U ∧ D.slots[fV.slot]? = some v0 ∧ D.slots[fC.slot]? = some c0 ∧ RoadKit.slotOf Z ST "value" "[B" = fV.slot ∧ RoadKit.slotOf Z ST "coder" "B" = fC.slot := by
  obtain ⟨D, cfV, kV, iV, fV, hD, gV, stV, knV, obV, asV, slV⟩ := V
  obtain ⟨D', cfC, kC, iC, fC, hD', gC, stC, -, -, asC, slC⟩ := C
  cases hD.symm.trans hD'
  obtain ⟨D2, kD, e1, e2, e3, e4, e5⟩ := E
  cases hD.symm.trans e1
  obtain ⟨c2, k2, i1, i2, i3, -⟩ := Cond.instantiable_spec wi
  cases e2.symm.trans i1
  cases e3.symm.trans i2
  obtain ⟨kU, u1, u2⟩ := al.2.2 _ _ e3
  exact ⟨D, fV, fC, ⟨hD, ⟨knV, fun q hq => by rw [hq] at obV; cases obV⟩, by rw [al.findClass]; exact e2, kU, u1, by rw [u2]; exact i3, by rw [u2]; exact e5 i3⟩, ⟨SBG.found_only al ⟨cfV, kV, iV, gV⟩, stV⟩, ⟨SBG.found_only al ⟨cfC, kC, iC, gC⟩, stC⟩, slV, slC, by simp [RoadKit.slotOf, gV], by simp [RoadKit.slotOf, gC]⟩
theorem sta_is {Z U : State} (al : Z.vm.Alike U.vm) {C n d : String} {v : Value} (S : RoadKit.Sta Z U.heap C n d v) : StaticIs U C n d v := by
  obtain ⟨cfS, iS, kS, fS, st, cS, t1, t2, t3, t4, t5, t6, t7⟩ := S
  exact StaticIs.there (s := { Z with heap := U.heap }) ⟨cfS, iS, kS, fS, st, cS, t1, t2, t3, t4, t5, (fun q => by rw [q] at t6; cases t6), t7⟩ al rfl
/-- **length() OF SUCH A STRING** -/
theorem lenW {p : Program} {l : Launch} {e : Env} {R : Room} {s : State} {args : Array Value} {below : List Frame} {len W : Nat} {Z : State} {a0 : Array Value} {h : Heap} (hZ : Z.Warmed39 s.vm) (hw : ∀ d ∈ wordsLen, d.before a0 Z = true) {kI : Nat} (wi : (Jvm.Cond.instantiable ST kI).before a0 Z = true)
    {x t : Addr} {kb : ClassId} {cs : List Int32} {cd N2 z : Int32} {vs : List Value} (E : RoadKit.Exa Z h x ST) (V : RoadKit.Fld Z h x ST "value" "[B" (.ref t)) (C : RoadKit.Fld Z h x ST "coder" "B" (.int cd)) (K : RoadKit.Arv Z h t kb .byte N2 vs (.int 0)) (hc : CodA cs cd N2 vs) (hb : ∀ c ∈ cs, ¬ c < 0 ∧ ¬ (65535 : Int32) < c)
    (S : RoadKit.Sta Z h ST "COMPACT_STRINGS" "Z" (.int z)) (hz : ¬ z = 0) (l2 : cs.length ≤ 4000) (hfr : 2 ≤ R.frames) (hlo : W + 25 ≤ R.locals) :
    Back l R p e below s args (⟨"java/lang/String", "length", "()I"⟩ : MethodName) len W (fun P a => a = #[.ref x] ∧ P.U.heap = h ∧ P.cells + 0 ≤ R.cells ∧ P.slots + 0 ≤ R.slots)
      (fun P _ v B => ∃ L, (v = some (.int (Int32.ofNat cs.length)) ∧ L = [] ∧ B.U.heap = h) ∧ B.locs = P.locs ++ L ∧ B.cells = P.cells + 0 ∧ B.slots = P.slots + 0) := by
  obtain ⟨A, K1, K2, K3, K4, K5, K6⟩ := K
  have hcod := hc.cod (by omega) K3 K5
  intro m meth c P g ig mk a X hg hsize hdg hW hn hp'
  obtain ⟨rfl, rfl, r1, r2⟩ := hp'
  have al : Z.vm.Alike P.U.vm := hZ.alike.trans X.warmed.alike
  obtain ⟨D, fV, fC, hB, F1, F2, g1, g2, -, -⟩ := strObj wi al E V C
  have hx : Txt x t A cd cs.length (fun j => cs.getD j 0) P.U := ⟨⟨_, hB.2.2.1, D, hB.1, rfl, by cases q : D.vm <;> first | rfl | exact absurd q (hB.2.1.2 _)⟩, Has.of hB F1 g1, Has.of hB F2 g2, ⟨K1.1, State.isArrayOf_alike al K1.2.1, K1.2.2, by rcases hcod with ⟨-, q, -⟩ | ⟨-, q, -⟩ <;> omega⟩, hcod, fun j hj => by
    have e : cs.getD j 0 = cs[j] := by simp [List.getD_eq_getElem?_getD, hj]
    show ¬ cs.getD j 0 < 0 ∧ ¬ 65535 < cs.getD j 0
    rw [e]; exact hb _ (List.getElem_mem _)⟩
  obtain ⟨v, B, X', ⟨⟨hv, hh⟩, hl, hk, hs⟩, st⟩ := Len.pays x t A cd cs.length (fun j => cs.getD j 0) z (tabLen_of (movedLen hZ hw)) hfr hlo m meth c P g ig mk _ X hg hsize hdg hW hn ⟨r1, r2, rfl, hx, sta_is al S, hz⟩
  exact ⟨v, B, X', ⟨[], ⟨hv, rfl, hh⟩, hl, hk, hs⟩, st⟩
end StrChars.Road
namespace StrChars.Road
open Jvm Sem ClassFile Op Lib Jvm.Stand Jvm.Free Jvm.Free.XT
open Jvm.Lib.Cold (StaticIs)
/-- the road's facts of a String, as the laws ask it -/
theorem txt_of {Z U : State} {a0 : Array Value} {kI : Nat} (wi : (Jvm.Cond.instantiable ST kI).before a0 Z = true) (al : Z.vm.Alike U.vm) {x t : Addr} {kb : ClassId} {cs : List Int32} {cd N2 : Int32} {vs : List Value} (E : RoadKit.Exa Z U.heap x ST) (V : RoadKit.Fld Z U.heap x ST "value" "[B" (.ref t)) (C : RoadKit.Fld Z U.heap x ST "coder" "B" (.int cd)) (K : RoadKit.Arv Z U.heap t kb .byte N2 vs (.int 0)) (hc : CodA cs cd N2 vs) (hb : ∀ c ∈ cs, ¬ c < 0 ∧ ¬ (65535 : Int32) < c) (l2 : cs.length ≤ 4000) :
    ∃ A, Txt x t A cd cs.length (fun j => cs.getD j 0) U := by
  obtain ⟨A, K1, K2, K3, K4, K5, K6⟩ := K
  have hcod := hc.cod (by omega) K3 K5
  obtain ⟨D, fV, fC, hB, F1, F2, g1, g2, -, -⟩ := strObj wi al E V C
  exact ⟨A, ⟨_, hB.2.2.1, D, hB.1, rfl, by cases q : D.vm <;> first | rfl | exact absurd q (hB.2.1.2 _)⟩, Has.of hB F1 g1, Has.of hB F2 g2, ⟨K1.1, State.isArrayOf_alike al K1.2.1, K1.2.2, by rcases hcod with ⟨-, q, -⟩ | ⟨-, q, -⟩ <;> omega⟩, hcod, fun j hj => by
    have e : cs.getD j 0 = cs[j] := by simp [List.getD_eq_getElem?_getD, hj]
    show ¬ cs.getD j 0 < 0 ∧ ¬ 65535 < cs.getD j 0
    rw [e]; exact hb _ (List.getElem_mem _)⟩
end StrChars.Road
namespace StrChars
open Jvm Sem ClassFile Op Lib Jvm.Stand Jvm.Free.XT Jvm.Free.ALB Jvm.Free.JM Jvm.Free
open Jvm.Lib.Cold (StaticIs)
namespace ChN
def yN : MethodName := ⟨"java/lang/String", "charAt", "(I)C"⟩
abbrev yB : ByteArray := jdk_42_method_56_code
theorem d0 : decode yB 0 = .ok (.aload_n 0, 1) := by decide +kernel
theorem d1 : decode yB 1 = .ok (.invokevirtual 492, 3) := by decide +kernel
theorem d4 : decode yB 4 = .ok (.ifCond (.eq) 12, 3) := by decide +kernel
theorem d7 : decode yB 7 = .ok (.aload_n 0, 1) := by decide +kernel
theorem d8 : decode yB 8 = .ok (.getfield 9, 3) := by decide +kernel
theorem d11 : decode yB 11 = .ok (.iload_n 1, 1) := by decide +kernel
theorem d12 : decode yB 12 = .ok (.invokestatic 495, 3) := by decide +kernel
theorem d15 : decode yB 15 = .ok (.ireturn, 1) := by decide +kernel
def site : List Cond := [.fieldLink "java/lang/String" 9 "java/lang/String" "value" "[B", IsL.tab, LChA.tab] ++ virtW "java/lang/String" 492 "java/lang/String" IsL.yN IsL.yN ++ staticW "java/lang/String" 495 LChA.yN
def tab : Cond := tabOf yN yB 2 (some .char) site
def P (x t : Addr) (V : Cell) (n : Nat) (f : Nat → Int32) (z : Int32) (fm : Value) (i : Nat) (args : Array Value) (s : State) : Prop := args = #[.ref x, .int (Int32.ofNat i)] ∧ Txt x t V 0 n f s ∧ i < n ∧ StaticIs s "java/lang/String" "COMPACT_STRINGS" "Z" (.int z) ∧ ¬ z = 0 ∧ StaticIs s "jdk/internal/util/Preconditions" "SIOOBE_FORMATTER" "Ljava/util/function/BiFunction;" fm ∧ fm.isRef = true
def E (f : Nat → Int32) (i : Nat) (r : Option Value) (s u : State) : Prop := XT.PureE (some (.int (f i))) r s u
/-- charAt(i) of a Latin-1 String of n chars, i < n: f i -/
theorem law (l : Launch) (x t : Addr) (V : Cell) (n : Nat) (f : Nat → Int32) (z : Int32) (fm : Value) (i : Nat) : Law l yN 2 1 3 40 yB 2 (some .char) site (P x t V n f z fm i) (E f i) [] 0 0 := by
  refine Law.of_walk (plainFor_of_name (by decide +kernel)) (by decide +kernel) (by decide +kernel) (by decide) (fun _ _ h => by rw [h.1]; rfl) (fun _ U U' hal hh h => ⟨h.1, h.2.1.mv hal hh, h.2.2.1, h.2.2.2.1.there hal hh, h.2.2.2.2.1, h.2.2.2.2.2.1.there hal hh, h.2.2.2.2.2.2⟩) (fun r U U' V V' h1 hal h2 h => XT.PureE.mv r U U' V V' h1 hal h2 h) ?_
  intro p e s m args below meth c s₁ X0 hexec hbytes hml hret hlk hnm hown hh0 W hP
  obtain ⟨rfl, hx, hi, s1, hz, s3, rf⟩ := hP
  have v31 := hx.2.2.2.1.2.2.2
  have hr := hx.2.2.2.2.2 i hi
  have hx0 := hx.mv X0.warmed.alike hh0
  have c1 : Steps p.tables e below (s₁.setTop (entryFrame m #[.ref x, .int (Int32.ofNat i)] 2)) (s₁.setTop (mkF m 1 #[.val (.ref x), .val (.int (Int32.ofNat i))] [.ref x])) := Steps.trans (entry rfl) (by
    show Steps p.tables e below (s₁.setTop (mkF m 0 #[.val (.ref x), .val (.int (Int32.ofNat i))] [])) _
    refine XS.aloadN X0.here hexec rfl (hb hbytes d0) rfl rfl ?_
    exact Steps.refl _)
  obtain ⟨v2, T2, X2, E2, g2⟩ := X0.callV hexec (IsL.law l x 0 z) hown (wks W (virtW "java/lang/String" 492 "java/lang/String" IsL.yN IsL.yN)) rfl (by decide) (wk W IsL.tab) (W := 0) (Nat.le_of_ble_eq_true rfl) (Nat.le_of_ble_eq_true rfl) (Nat.le_refl _) (Nat.le_refl _) (hx0.1.fc X0.warmed.alike) hx0.1.is (g := (mkF m 1 #[.val (.ref x), .val (.int (Int32.ofNat i))] [.ref x])) rfl (by rw [hml]; rfl) c1 (argsL := []) (rest := []) rfl rfl (by show 2 * 0 + 0 ≤ _; decide) (hb hbytes d1) (⟨rfl, hx0.2.2.1, hx.2.2.2.2.1.cd, s1.there X0.warmed.alike hh0, hz⟩)
  obtain ⟨rfl, q2⟩ := E2
  have hh2 := q2.trans hh0
  have hx2 := hx.mv X2.warmed.alike hh2
  obtain ⟨-, k1, k2⟩ | ⟨k0, -⟩ := hx.2.2.2.2.1
  · have c3 : Steps p.tables e below (s₁.setTop (entryFrame m #[.ref x, .int (Int32.ofNat i)] 2)) (T2.setTop (mkF m 8 #[.val (.ref x), .val (.int (Int32.ofNat i))] [.ref x])) := Steps.trans g2 (by
      refine XS.ifNo X2.here hexec rfl (hb hbytes d4) rfl (i0_eq_f (by decide)) ?_
      refine XS.aloadN X2.here hexec rfl (hb hbytes d7) rfl rfl ?_
      exact Steps.refl _)
    obtain ⟨T4, X4, q4, st4⟩ := X2.hget hexec hown (wk W (.fieldLink "java/lang/String" 9 "java/lang/String" "value" "[B")) hx2.2.1 (g := (mkF m 8 #[.val (.ref x), .val (.int (Int32.ofNat i))] [.ref x])) rfl (rest := []) rfl (hb hbytes d8)
    have hh4 := q4.trans hh2
    have c5 : Steps p.tables e below (s₁.setTop (entryFrame m #[.ref x, .int (Int32.ofNat i)] 2)) (T4.setTop (mkF m 12 #[.val (.ref x), .val (.int (Int32.ofNat i))] [.int (Int32.ofNat i), .ref t])) := (c3.trans (st4 _ (Steps.refl _))).trans (by
      refine XS.iloadN X4.here hexec rfl (hb hbytes d11) rfl ?_
      exact Steps.refl _)
    obtain ⟨v6, T6, X6, E6, g6⟩ := X4.callS hexec (LChA.law l t V i (lo8 (f i)) fm) hown (wks W (staticW "java/lang/String" 495 LChA.yN)) (wk W LChA.tab) (W := 0) (Nat.le_of_ble_eq_true rfl) (Nat.le_of_ble_eq_true rfl) (Nat.le_refl _) (Nat.le_refl _) (g := (mkF m 12 #[.val (.ref x), .val (.int (Int32.ofNat i))] [.int (Int32.ofNat i), .ref t])) rfl (by rw [hml]; rfl) c5 (argsL := [.ref t, .int (Int32.ofNat i)]) (rest := []) rfl rfl (by show 2 * 0 + 0 ≤ _; decide) (hb hbytes d12) (⟨rfl, hx.2.2.2.1.mv X4.warmed.alike hh4, (k2 i hi).1, s3.there X4.warmed.alike hh4, rf⟩)
    obtain ⟨rfl, q6⟩ := E6
    rw [chr8_lo8 hr.1 (k2 i hi).2] at g6
    exact ⟨T6, some (.int (f i)), _, _, _, X6, rfl, rfl, rfl, (fun h => by cases h), ⟨rfl, q6.trans hh4⟩, fun fs hl => Steps.trans g6 (X6.ireturnOut hexec hret (narrow_ch hr.1 hr.2) (Or.inr (Or.inr (Or.inr (Or.inl rfl)))) (hb hbytes d15) hl)⟩
  · exact absurd k0 (by decide)
theorem pays {l : Launch} {R : Room} {p : Program} {e : Env} {below : List Frame} {s : State} {sargs : Array Value} {len W : Nat} (x t : Addr) (V : Cell) (n : Nat) (f : Nat → Int32) (z : Int32) (fm : Value) (i : Nat) (htab : tab.before sargs s = true) (hfr : 4 ≤ R.frames) (hlo : W + 53 ≤ R.locals) :
    Back l R p e below s sargs yN len W (fun A₁ a₁ => A₁.cells + 0 ≤ R.cells ∧ A₁.slots + 0 ≤ R.slots ∧ P x t V n f z fm i a₁ A₁.U) (fun A₁ _ v₁ B₁ => E f i v₁ A₁.U B₁.U ∧ B₁.locs = A₁.locs ++ [] ∧ B₁.cells = A₁.cells + 0 ∧ B₁.slots = A₁.slots + 0) :=
  (law l x t V n f z fm i).pays htab hfr (by omega)
end ChN
end StrChars
namespace StrChars.Road
open Jvm Sem ClassFile Op Lib Jvm.Stand Jvm.Free Jvm.Free.XT
open Jvm.Lib.Cold (StaticIs)
/-- the words of String.charAt(int), the Latin-1 road alone -/
abbrev wordsChN : List Jvm.Cond := [.code ChN.yN ChN.yB 2 (some .char), .initialized ST, .fieldLink ST 9 ST "value" "[B", .fieldLink ST 38 ST "COMPACT_STRINGS" "Z", .fieldLink ST 15 ST "coder" "B", .code IsL.yN IsL.yB 1 (some .boolean), .methodLink ST 492 IsL.yN, .declares IsL.yN, .selects ST IsL.yN IsL.yN, .instanceMethod IsL.yN,
  .methodLink ST 495 LChA.yN, .static LChA.yN, .code LChA.yN LChA.yB 2 (some .char), .initialized "java/lang/StringLatin1", .methodLink "java/lang/StringLatin1" 9 JO.Str_checkIndex.yN, .static JO.Str_checkIndex.yN, .code JO.Str_checkIndex.yN JO.Str_checkIndex.yB 2 none,
  .fieldLink ST 1053 "jdk/internal/util/Preconditions" "SIOOBE_FORMATTER" "Ljava/util/function/BiFunction;", .methodLink ST 1059 JC.PreCheck.yN, .static JC.PreCheck.yN, .code JC.PreCheck.yN JC.PreCheck.yB 3 (some .int), .initialized "jdk/internal/util/Preconditions"]
theorem tabChN_of {a : Array Value} {s : State} (h : ∀ w ∈ wordsChN, w.before a s = true) : ChN.tab.before a s = true := by
  have hp : JC.PreCheck.tab.before a s = true := unparts (wk h (.code JC.PreCheck.yN JC.PreCheck.yB 3 (some .int))) (wks h (.initialized JC.PreCheck.yN.cls :: JC.PreCheck.site))
  have qk := consq hp h
  have hk : JO.Str_checkIndex.tab.before a s = true := unparts (wk qk (.code JO.Str_checkIndex.yN JO.Str_checkIndex.yB 2 none)) (wks qk (.initialized JO.Str_checkIndex.yN.cls :: JO.Str_checkIndex.site))
  have ql := consq hk h
  have hl : LChA.tab.before a s = true := unparts (wk ql (.code LChA.yN LChA.yB 2 (some .char))) (wks ql (.initialized LChA.yN.cls :: LChA.site))
  have hi : IsL.tab.before a s = true := unparts (wk h (.code IsL.yN IsL.yB 1 (some .boolean))) (wks h (.initialized IsL.yN.cls :: IsL.site))
  have q := consq hi (consq hl h)
  exact unparts (wk q (.code ChN.yN ChN.yB 2 (some .char))) (wks q (.initialized ChN.yN.cls :: ChN.site))
theorem movedChN {Z s : State} {a0 args : Array Value} (hZ : Z.Warmed39 s.vm) (hw : ∀ d ∈ wordsChN, d.before a0 Z = true) : ∀ d ∈ wordsChN, d.before args s = true := fun d hd => by
  have t : ∀ d ∈ wordsChN, (d.onTables && d.keepsFace) = true := by decide +kernel
  exact RoadKit.mv hZ (hw d hd) (t d hd)
/-- **charAt(i) OF A LATIN-1 STRING**, i < n: the char -/
theorem chN {p : Program} {l : Launch} {e : Env} {R : Room} {s : State} {args : Array Value} {below : List Frame} {len W : Nat} {Z : State} {a0 : Array Value} {h : Heap} (hZ : Z.Warmed39 s.vm) (hw : ∀ d ∈ wordsChN, d.before a0 Z = true) {kI : Nat} (wi : (Jvm.Cond.instantiable ST kI).before a0 Z = true)
    {x t : Addr} {kb : ClassId} {cs : List Int32} {N2 z : Int32} {vs : List Value} {fm : Value} {i : Nat} {j : Int32} (E : RoadKit.Exa Z h x ST) (V : RoadKit.Fld Z h x ST "value" "[B" (.ref t)) (C : RoadKit.Fld Z h x ST "coder" "B" (.int 0)) (K : RoadKit.Arv Z h t kb .byte N2 vs (.int 0)) (hc : CodA cs 0 N2 vs) (hb : ∀ c ∈ cs, ¬ c < 0 ∧ ¬ (65535 : Int32) < c)
    (S : RoadKit.Sta Z h ST "COMPACT_STRINGS" "Z" (.int z)) (hz : ¬ z = 0) (F : RoadKit.Sta Z h "jdk/internal/util/Preconditions" "SIOOBE_FORMATTER" "Ljava/util/function/BiFunction;" fm) (rf : fm.isRef = true) (l2 : cs.length ≤ 4000) (hi : i < cs.length) (hj : j = Int32.ofNat i) (hfr : 4 ≤ R.frames) (hlo : W + 53 ≤ R.locals) :
    Back l R p e below s args (⟨"java/lang/String", "charAt", "(I)C"⟩ : MethodName) len W (fun P a => a = #[.ref x, .int j] ∧ P.U.heap = h ∧ P.cells + 0 ≤ R.cells ∧ P.slots + 0 ≤ R.slots)
      (fun P _ v B => ∃ L, (v = some (.int (cs.getD i 0)) ∧ L = [] ∧ B.U.heap = h) ∧ B.locs = P.locs ++ L ∧ B.cells = P.cells + 0 ∧ B.slots = P.slots + 0) := by
  subst hj
  intro m meth c P g ig mk a X hg hsize hdg hW hn hp'
  obtain ⟨rfl, rfl, r1, r2⟩ := hp'
  have al : Z.vm.Alike P.U.vm := hZ.alike.trans X.warmed.alike
  obtain ⟨A, hx⟩ := txt_of wi al E V C K hc hb l2
  obtain ⟨v, B, X', ⟨⟨hv, hh⟩, hl, hk, hs⟩, st⟩ := ChN.pays x t A cs.length (fun j => cs.getD j 0) z fm i (tabChN_of (movedChN hZ hw)) hfr hlo m meth c P g ig mk _ X hg hsize hdg hW hn ⟨r1, r2, rfl, hx, hi, sta_is al S, hz, sta_is al F, rf⟩
  exact ⟨v, B, X', ⟨[], ⟨hv, rfl, hh⟩, hl, hk, hs⟩, st⟩
/-- what backV says of its String, as the contracts of this text ask it: cs's low bytes, coder 0 -/
theorem codOf {cs : List Int32} {n : Nat} (hn : cs.length = n) (hb : ∀ c ∈ cs, ¬ 255 < c) : CodA cs 0 (Int32.ofNat n) ((cs.map lo8).map Value.int) := Or.inl ⟨rfl, by rw [hn], by simp [List.map_map, Function.comp_def], hb⟩
end StrChars.Road
end Jvm.Pilot.@@N@@
namespace Jvm.Pilot.@@N@@
open Jvm Jvm.ClassFile Sem Op Lib Jvm.Free Jvm.Stand Jvm.LawKit Jvm.RoadKit Bundle Jvm.Pilot.@@N@@.Jvm.D
/-- the run from S on comes to an end of which G holds -/
def Go (p : Program) (e : Env) (below : List Frame) (G : Outcome → State → Prop) (S : State) : Prop := ∃ s₂ o, Steps p.tables e below S s₂ ∧ s₂.status = .running ∧ Ended s₂ below o ∧ G o s₂
theorem Go.mono {p : Program} {e : Env} {below : List Frame} {G : Outcome → State → Prop} {S S' : State} (st : ∀ t, Steps p.tables e below S' t → Steps p.tables e below S t) (h : Go p e below G S') : Go p e below G S := by
  obtain ⟨a, b, c, d⟩ := h; exact ⟨a, b, st _ c, d⟩
/-- where a walk stands: the method's own facts, the heap, and an invariant I over the tables' state and the heap -/
def Wk (p : Program) (l : Launch) (e : Env) (R : Room) (m : MethodId) (args : Array Value) (below : List Frame) (meth : Method) (c : Code) (own : String) (bytes : ByteArray) (maxL : Nat) (Z : State) (I : State → Heap → Prop) (s' T : State) (locs : List Loc) (cells slots : Nat) (h : Heap) : Prop :=
  Stand p l e R s' m args below meth c T locs cells slots ∧ T.heap = h ∧ Z.Warmed39 s'.vm ∧ s'.vm.findClass own = some m.cls ∧ p.tables.exec = Jvm.exec ∧ c.code = bytes ∧ c.maxLocals = maxL ∧ I s' h
section Walk
variable {p : Program} {l : Launch} {e : Env} {R : Room} {m : MethodId} {args : Array Value} {below : List Frame} {meth : Method} {c : Code} {own : String} {bytes : ByteArray} {maxL : Nat} {Z : State} {I : State → Heap → Prop} {s' T : State} {locs : List Loc} {cells slots : Nat} {h : Heap} {G : Outcome → State → Prop} {pc : Nat} {Ls : Array Slot} {S : List Value} {a0 : Array Value}
theorem Wk.st (D : Wk p l e R m args below meth c own bytes maxL Z I s' T locs cells slots h) : Stand p l e R s' m args below meth c T locs cells slots := D.1
theorem Wk.eq (D : Wk p l e R m args below meth c own bytes maxL Z I s' T locs cells slots h) : T.heap = h := D.2.1
theorem Wk.wm (D : Wk p l e R m args below meth c own bytes maxL Z I s' T locs cells slots h) : Z.Warmed39 s'.vm := D.2.2.1
theorem Wk.ow (D : Wk p l e R m args below meth c own bytes maxL Z I s' T locs cells slots h) : s'.vm.findClass own = some m.cls := D.2.2.2.1
theorem Wk.ex (D : Wk p l e R m args below meth c own bytes maxL Z I s' T locs cells slots h) : p.tables.exec = Jvm.exec := D.2.2.2.2.1
theorem Wk.cb (D : Wk p l e R m args below meth c own bytes maxL Z I s' T locs cells slots h) : c.code = bytes := D.2.2.2.2.2.1
theorem Wk.ml (D : Wk p l e R m args below meth c own bytes maxL Z I s' T locs cells slots h) : c.maxLocals = maxL := D.2.2.2.2.2.2.1
theorem Wk.iv (D : Wk p l e R m args below meth c own bytes maxL Z I s' T locs cells slots h) : I s' h := D.2.2.2.2.2.2.2
theorem Wk.more (D : Wk p l e R m args below meth c own bytes maxL Z I s' T locs cells slots h) {k n : Nat} (hc : cells ≤ k) (hs : slots ≤ n) : Wk p l e R m args below meth c own bytes maxL Z I s' T locs k n h := ⟨D.1.more hc hs, D.2⟩
theorem Wk.mk' {T' : State} {locs' : List Loc} {cells' slots' : Nat} {h' : Heap} (D : Wk p l e R m args below meth c own bytes maxL Z I s' T locs cells slots h) (X : Stand p l e R s' m args below meth c T' locs' cells' slots') (q : T'.heap = h') (i : I s' h') : Wk p l e R m args below meth c own bytes maxL Z I s' T' locs' cells' slots' h' := ⟨X, q, D.wm, D.ow, D.ex, D.cb, D.ml, i⟩
theorem g_aloadN (D : Wk p l e R m args below meth c own bytes maxL Z I s' T locs cells slots h) (pc' : Nat) {k : Fin 4} {v : Value} (hd : decode bytes pc = .ok (.aload_n k, 1)) (hl : Ls[k.val]? = some (.val v)) (hv : v.isRef = true) (hp : pc + 1 = pc') (hr : Go p e below G (T.setTop (mkF m pc' Ls (v :: S)))) : Go p e below G (T.setTop (mkF m pc Ls S)) := by
  subst hp; exact Go.mono (fun t k => XS.aloadN D.st.here D.ex rfl (hb D.cb hd) hl hv k) hr
theorem g_aload (D : Wk p l e R m args below meth c own bytes maxL Z I s' T locs cells slots h) (pc' : Nat) {k : Nat} {v : Value} (hd : decode bytes pc = .ok (.aload k, 2)) (hl : Ls[k]? = some (.val v)) (hv : v.isRef = true) (hp : pc + 2 = pc') (hr : Go p e below G (T.setTop (mkF m pc' Ls (v :: S)))) : Go p e below G (T.setTop (mkF m pc Ls S)) := by
  subst hp; exact Go.mono (fun t k => XS.aload D.st.here D.ex rfl (hb D.cb hd) hl hv k) hr
theorem g_iloadN (D : Wk p l e R m args below meth c own bytes maxL Z I s' T locs cells slots h) (pc' : Nat) {k : Fin 4} {v : Int32} (hd : decode bytes pc = .ok (.iload_n k, 1)) (hl : Ls[k.val]? = some (.val (.int v))) (hp : pc + 1 = pc') (hr : Go p e below G (T.setTop (mkF m pc' Ls (.int v :: S)))) : Go p e below G (T.setTop (mkF m pc Ls S)) := by
  subst hp; exact Go.mono (fun t k => XS.iloadN D.st.here D.ex rfl (hb D.cb hd) hl k) hr
theorem g_iload (D : Wk p l e R m args below meth c own bytes maxL Z I s' T locs cells slots h) (pc' : Nat) {k : Nat} {v : Int32} (hd : decode bytes pc = .ok (.iload k, 2)) (hl : Ls[k]? = some (.val (.int v))) (hp : pc + 2 = pc') (hr : Go p e below G (T.setTop (mkF m pc' Ls (.int v :: S)))) : Go p e below G (T.setTop (mkF m pc Ls S)) := by
  subst hp; exact Go.mono (fun t k => XS.iload D.st.here D.ex rfl (hb D.cb hd) hl k) hr
theorem g_lloadN (D : Wk p l e R m args below meth c own bytes maxL Z I s' T locs cells slots h) (pc' : Nat) {k : Fin 4} {v : Int64} (hd : decode bytes pc = .ok (.lload_n k, 1)) (hl : Ls[k.val]? = some (.val (.long v))) (hp : pc + 1 = pc') (hr : Go p e below G (T.setTop (mkF m pc' Ls (.long v :: S)))) : Go p e below G (T.setTop (mkF m pc Ls S)) := by
  subst hp; exact Go.mono (fun t k => XS.lloadN D.st.here D.ex rfl (hb D.cb hd) hl k) hr
theorem g_lload (D : Wk p l e R m args below meth c own bytes maxL Z I s' T locs cells slots h) (pc' : Nat) {k : Nat} {v : Int64} (hd : decode bytes pc = .ok (.lload k, 2)) (hl : Ls[k]? = some (.val (.long v))) (hp : pc + 2 = pc') (hr : Go p e below G (T.setTop (mkF m pc' Ls (.long v :: S)))) : Go p e below G (T.setTop (mkF m pc Ls S)) := by
  subst hp; exact Go.mono (fun t k => XS.lload D.st.here D.ex rfl (hb D.cb hd) hl k) hr
theorem g_istoreN (D : Wk p l e R m args below meth c own bytes maxL Z I s' T locs cells slots h) (pc' : Nat) {k : Fin 4} {x : Int32} (l' : Array Slot) (hd : decode bytes pc = .ok (.istore_n k, 1)) (hl : storeLocals Ls k.val (.int x) = some l') (hp : pc + 1 = pc') (hr : Go p e below G (T.setTop (mkF m pc' l' S))) : Go p e below G (T.setTop (mkF m pc Ls (.int x :: S))) := by
  subst hp; exact Go.mono (fun t k => XS.istoreN D.st.here D.ex rfl (hb D.cb hd) rfl hl k) hr
theorem g_istore (D : Wk p l e R m args below meth c own bytes maxL Z I s' T locs cells slots h) (pc' : Nat) {k : Nat} {x : Int32} (l' : Array Slot) (hd : decode bytes pc = .ok (.istore k, 2)) (hl : storeLocals Ls k (.int x) = some l') (hp : pc + 2 = pc') (hr : Go p e below G (T.setTop (mkF m pc' l' S))) : Go p e below G (T.setTop (mkF m pc Ls (.int x :: S))) := by
  subst hp; exact Go.mono (fun t k => XS.istore D.st.here D.ex rfl (hb D.cb hd) rfl hl k) hr
theorem g_lstoreN (D : Wk p l e R m args below meth c own bytes maxL Z I s' T locs cells slots h) (pc' : Nat) {k : Fin 4} {x : Int64} (l' : Array Slot) (hd : decode bytes pc = .ok (.lstore_n k, 1)) (hl : storeLocals Ls k.val (.long x) = some l') (hp : pc + 1 = pc') (hr : Go p e below G (T.setTop (mkF m pc' l' S))) : Go p e below G (T.setTop (mkF m pc Ls (.long x :: S))) := by
  subst hp; exact Go.mono (fun t k => XS.lstoreN D.st.here D.ex rfl (hb D.cb hd) rfl hl k) hr
theorem g_lstore (D : Wk p l e R m args below meth c own bytes maxL Z I s' T locs cells slots h) (pc' : Nat) {k : Nat} {x : Int64} (l' : Array Slot) (hd : decode bytes pc = .ok (.lstore k, 2)) (hl : storeLocals Ls k (.long x) = some l') (hp : pc + 2 = pc') (hr : Go p e below G (T.setTop (mkF m pc' l' S))) : Go p e below G (T.setTop (mkF m pc Ls (.long x :: S))) := by
  subst hp; exact Go.mono (fun t k => XS.lstore D.st.here D.ex rfl (hb D.cb hd) rfl hl k) hr
theorem g_astoreN (D : Wk p l e R m args below meth c own bytes maxL Z I s' T locs cells slots h) (pc' : Nat) {k : Fin 4} {x : Value} (l' : Array Slot) (hd : decode bytes pc = .ok (.astore_n k, 1)) (hv : x.isRef = true) (hl : storeLocals Ls k.val x = some l') (hp : pc + 1 = pc') (hr : Go p e below G (T.setTop (mkF m pc' l' S))) : Go p e below G (T.setTop (mkF m pc Ls (x :: S))) := by
  subst hp; exact Go.mono (fun t k => XS.astoreN D.st.here D.ex rfl (hb D.cb hd) rfl hv hl k) hr
theorem g_astore (D : Wk p l e R m args below meth c own bytes maxL Z I s' T locs cells slots h) (pc' : Nat) {k : Nat} {x : Value} (l' : Array Slot) (hd : decode bytes pc = .ok (.astore k, 2)) (hv : x.isRef = true) (hl : storeLocals Ls k x = some l') (hp : pc + 2 = pc') (hr : Go p e below G (T.setTop (mkF m pc' l' S))) : Go p e below G (T.setTop (mkF m pc Ls (x :: S))) := by
  subst hp; exact Go.mono (fun t k => XS.astore D.st.here D.ex rfl (hb D.cb hd) rfl hv hl k) hr
theorem g_iconst (D : Wk p l e R m args below meth c own bytes maxL Z I s' T locs cells slots h) (pc' : Nat) {i : Int} (v : Int32) (hd : decode bytes pc = .ok (.iconst i, 1)) (hv : Int32.ofInt i = v) (hp : pc + 1 = pc') (hr : Go p e below G (T.setTop (mkF m pc' Ls (.int v :: S)))) : Go p e below G (T.setTop (mkF m pc Ls S)) := by
  subst hp; subst hv; exact Go.mono (fun t k => XS.iconst D.st.here D.ex rfl (hb D.cb hd) k) hr
theorem g_bipush (D : Wk p l e R m args below meth c own bytes maxL Z I s' T locs cells slots h) (pc' : Nat) {i : Int} (v : Int32) (hd : decode bytes pc = .ok (.bipush i, 2)) (hv : (Int8.ofInt i).toInt32 = v) (hp : pc + 2 = pc') (hr : Go p e below G (T.setTop (mkF m pc' Ls (.int v :: S)))) : Go p e below G (T.setTop (mkF m pc Ls S)) := by
  subst hp; subst hv; exact Go.mono (fun t k => XS.bipush D.st.here D.ex rfl (hb D.cb hd) k) hr
theorem g_sipush (D : Wk p l e R m args below meth c own bytes maxL Z I s' T locs cells slots h) (pc' : Nat) {i : Int} (v : Int32) (hd : decode bytes pc = .ok (.sipush i, 3)) (hv : (Int16.ofInt i).toInt32 = v) (hp : pc + 3 = pc') (hr : Go p e below G (T.setTop (mkF m pc' Ls (.int v :: S)))) : Go p e below G (T.setTop (mkF m pc Ls S)) := by
  subst hp; subst hv; exact Go.mono (fun t k => XS.sipush D.st.here D.ex rfl (hb D.cb hd) k) hr
theorem g_lconst (D : Wk p l e R m args below meth c own bytes maxL Z I s' T locs cells slots h) (pc' : Nat) {i : Fin 2} (v : Int64) (hd : decode bytes pc = .ok (.lconst i, 1)) (hv : Int64.ofNat i = v) (hp : pc + 1 = pc') (hr : Go p e below G (T.setTop (mkF m pc' Ls (.long v :: S)))) : Go p e below G (T.setTop (mkF m pc Ls S)) := by
  subst hp; subst hv; exact Go.mono (fun t k => XS.lconst D.st.here D.ex rfl (hb D.cb hd) k) hr
theorem g_aconst (D : Wk p l e R m args below meth c own bytes maxL Z I s' T locs cells slots h) (pc' : Nat)  (hd : decode bytes pc = .ok (.aconst_null, 1)) (hp : pc + 1 = pc') (hr : Go p e below G (T.setTop (mkF m pc' Ls (.null :: S)))) : Go p e below G (T.setTop (mkF m pc Ls S)) := by
  subst hp; exact Go.mono (fun t k => XS.aconstNull D.st.here D.ex rfl (hb D.cb hd)  k) hr
theorem g_iadd (D : Wk p l e R m args below meth c own bytes maxL Z I s' T locs cells slots h) (pc' : Nat) {x y : Int32} (hd : decode bytes pc = .ok (.iadd, 1)) (hp : pc + 1 = pc') (hr : Go p e below G (T.setTop (mkF m pc' Ls (.int (x + y) :: S)))) : Go p e below G (T.setTop (mkF m pc Ls (.int y :: .int x :: S))) := by
  subst hp; exact Go.mono (fun t k => XS.iadd D.st.here D.ex rfl (hb D.cb hd) rfl k) hr
theorem g_isub (D : Wk p l e R m args below meth c own bytes maxL Z I s' T locs cells slots h) (pc' : Nat) {x y : Int32} (hd : decode bytes pc = .ok (.isub, 1)) (hp : pc + 1 = pc') (hr : Go p e below G (T.setTop (mkF m pc' Ls (.int (x - y) :: S)))) : Go p e below G (T.setTop (mkF m pc Ls (.int y :: .int x :: S))) := by
  subst hp; exact Go.mono (fun t k => XS.isub D.st.here D.ex rfl (hb D.cb hd) rfl k) hr
theorem g_imul (D : Wk p l e R m args below meth c own bytes maxL Z I s' T locs cells slots h) (pc' : Nat) {x y : Int32} (hd : decode bytes pc = .ok (.imul, 1)) (hp : pc + 1 = pc') (hr : Go p e below G (T.setTop (mkF m pc' Ls (.int (x * y) :: S)))) : Go p e below G (T.setTop (mkF m pc Ls (.int y :: .int x :: S))) := by
  subst hp; exact Go.mono (fun t k => XS.imul D.st.here D.ex rfl (hb D.cb hd) rfl k) hr
theorem g_iand (D : Wk p l e R m args below meth c own bytes maxL Z I s' T locs cells slots h) (pc' : Nat) {x y : Int32} (hd : decode bytes pc = .ok (.iand, 1)) (hp : pc + 1 = pc') (hr : Go p e below G (T.setTop (mkF m pc' Ls (.int (x &&& y) :: S)))) : Go p e below G (T.setTop (mkF m pc Ls (.int y :: .int x :: S))) := by
  subst hp; exact Go.mono (fun t k => XS.iand D.st.here D.ex rfl (hb D.cb hd) rfl k) hr
theorem g_ior (D : Wk p l e R m args below meth c own bytes maxL Z I s' T locs cells slots h) (pc' : Nat) {x y : Int32} (hd : decode bytes pc = .ok (.ior, 1)) (hp : pc + 1 = pc') (hr : Go p e below G (T.setTop (mkF m pc' Ls (.int (x ||| y) :: S)))) : Go p e below G (T.setTop (mkF m pc Ls (.int y :: .int x :: S))) := by
  subst hp; exact Go.mono (fun t k => XS.ior D.st.here D.ex rfl (hb D.cb hd) rfl k) hr
theorem g_ixor (D : Wk p l e R m args below meth c own bytes maxL Z I s' T locs cells slots h) (pc' : Nat) {x y : Int32} (hd : decode bytes pc = .ok (.ixor, 1)) (hp : pc + 1 = pc') (hr : Go p e below G (T.setTop (mkF m pc' Ls (.int (x ^^^ y) :: S)))) : Go p e below G (T.setTop (mkF m pc Ls (.int y :: .int x :: S))) := by
  subst hp; exact Go.mono (fun t k => XS.ixor D.st.here D.ex rfl (hb D.cb hd) rfl k) hr
theorem g_ishl (D : Wk p l e R m args below meth c own bytes maxL Z I s' T locs cells slots h) (pc' : Nat) {x y : Int32} (hd : decode bytes pc = .ok (.ishl, 1)) (hp : pc + 1 = pc') (hr : Go p e below G (T.setTop (mkF m pc' Ls (.int (x <<< (y &&& 31)) :: S)))) : Go p e below G (T.setTop (mkF m pc Ls (.int y :: .int x :: S))) := by
  subst hp; exact Go.mono (fun t k => XS.ishl D.st.here D.ex rfl (hb D.cb hd) rfl k) hr
theorem g_ishr (D : Wk p l e R m args below meth c own bytes maxL Z I s' T locs cells slots h) (pc' : Nat) {x y : Int32} (hd : decode bytes pc = .ok (.ishr, 1)) (hp : pc + 1 = pc') (hr : Go p e below G (T.setTop (mkF m pc' Ls (.int (x >>> (y &&& 31)) :: S)))) : Go p e below G (T.setTop (mkF m pc Ls (.int y :: .int x :: S))) := by
  subst hp; exact Go.mono (fun t k => XS.ishr D.st.here D.ex rfl (hb D.cb hd) rfl k) hr
theorem g_iushr (D : Wk p l e R m args below meth c own bytes maxL Z I s' T locs cells slots h) (pc' : Nat) {x y : Int32} (hd : decode bytes pc = .ok (.iushr, 1)) (hp : pc + 1 = pc') (hr : Go p e below G (T.setTop (mkF m pc' Ls (.int (XT.ushr x y) :: S)))) : Go p e below G (T.setTop (mkF m pc Ls (.int y :: .int x :: S))) := by
  subst hp; exact Go.mono (fun t k => XT.iushr D.st.here D.ex rfl (hb D.cb hd) rfl k) hr
theorem g_ladd (D : Wk p l e R m args below meth c own bytes maxL Z I s' T locs cells slots h) (pc' : Nat) {x y : Int64} (hd : decode bytes pc = .ok (.ladd, 1)) (hp : pc + 1 = pc') (hr : Go p e below G (T.setTop (mkF m pc' Ls (.long (x + y) :: S)))) : Go p e below G (T.setTop (mkF m pc Ls (.long y :: .long x :: S))) := by
  subst hp; exact Go.mono (fun t k => XS.ladd D.st.here D.ex rfl (hb D.cb hd) rfl k) hr
theorem g_lsub (D : Wk p l e R m args below meth c own bytes maxL Z I s' T locs cells slots h) (pc' : Nat) {x y : Int64} (hd : decode bytes pc = .ok (.lsub, 1)) (hp : pc + 1 = pc') (hr : Go p e below G (T.setTop (mkF m pc' Ls (.long (x - y) :: S)))) : Go p e below G (T.setTop (mkF m pc Ls (.long y :: .long x :: S))) := by
  subst hp; exact Go.mono (fun t k => XS.lsub D.st.here D.ex rfl (hb D.cb hd) rfl k) hr
theorem g_lmul (D : Wk p l e R m args below meth c own bytes maxL Z I s' T locs cells slots h) (pc' : Nat) {x y : Int64} (hd : decode bytes pc = .ok (.lmul, 1)) (hp : pc + 1 = pc') (hr : Go p e below G (T.setTop (mkF m pc' Ls (.long (x * y) :: S)))) : Go p e below G (T.setTop (mkF m pc Ls (.long y :: .long x :: S))) := by
  subst hp; exact Go.mono (fun t k => XS.lmul D.st.here D.ex rfl (hb D.cb hd) rfl k) hr
theorem g_land (D : Wk p l e R m args below meth c own bytes maxL Z I s' T locs cells slots h) (pc' : Nat) {x y : Int64} (hd : decode bytes pc = .ok (.land, 1)) (hp : pc + 1 = pc') (hr : Go p e below G (T.setTop (mkF m pc' Ls (.long (x &&& y) :: S)))) : Go p e below G (T.setTop (mkF m pc Ls (.long y :: .long x :: S))) := by
  subst hp; exact Go.mono (fun t k => XS.land D.st.here D.ex rfl (hb D.cb hd) rfl k) hr
theorem g_lor (D : Wk p l e R m args below meth c own bytes maxL Z I s' T locs cells slots h) (pc' : Nat) {x y : Int64} (hd : decode bytes pc = .ok (.lor, 1)) (hp : pc + 1 = pc') (hr : Go p e below G (T.setTop (mkF m pc' Ls (.long (x ||| y) :: S)))) : Go p e below G (T.setTop (mkF m pc Ls (.long y :: .long x :: S))) := by
  subst hp; exact Go.mono (fun t k => XS.lor D.st.here D.ex rfl (hb D.cb hd) rfl k) hr
theorem g_lxor (D : Wk p l e R m args below meth c own bytes maxL Z I s' T locs cells slots h) (pc' : Nat) {x y : Int64} (hd : decode bytes pc = .ok (.lxor, 1)) (hp : pc + 1 = pc') (hr : Go p e below G (T.setTop (mkF m pc' Ls (.long (x ^^^ y) :: S)))) : Go p e below G (T.setTop (mkF m pc Ls (.long y :: .long x :: S))) := by
  subst hp; exact Go.mono (fun t k => XS.lxor D.st.here D.ex rfl (hb D.cb hd) rfl k) hr
theorem g_lushr (D : Wk p l e R m args below meth c own bytes maxL Z I s' T locs cells slots h) (pc' : Nat) {x : Int64} {y : Int32} (hd : decode bytes pc = .ok (.lushr, 1)) (hp : pc + 1 = pc') (hr : Go p e below G (T.setTop (mkF m pc' Ls (.long (XT.ushrL x y) :: S)))) : Go p e below G (T.setTop (mkF m pc Ls (.int y :: .long x :: S))) := by
  subst hp; exact Go.mono (fun t k => XT.lushr D.st.here D.ex rfl (hb D.cb hd) rfl k) hr
theorem g_lshl (D : Wk p l e R m args below meth c own bytes maxL Z I s' T locs cells slots h) (pc' : Nat) {x : Int64} {y : Int32} (hd : decode bytes pc = .ok (.lshl, 1)) (hp : pc + 1 = pc') (hr : Go p e below G (T.setTop (mkF m pc' Ls (.long (x <<< (y.toInt64 &&& 63)) :: S)))) : Go p e below G (T.setTop (mkF m pc Ls (.int y :: .long x :: S))) := by
  subst hp; exact Go.mono (fun t k => XT.lshl D.st.here D.ex rfl (hb D.cb hd) rfl k) hr
theorem g_lcmp (D : Wk p l e R m args below meth c own bytes maxL Z I s' T locs cells slots h) (pc' : Nat) {x y : Int64} (hd : decode bytes pc = .ok (.lcmp, 1)) (hp : pc + 1 = pc') (hr : Go p e below G (T.setTop (mkF m pc' Ls (.int (XT.cmpL x y) :: S)))) : Go p e below G (T.setTop (mkF m pc Ls (.long y :: .long x :: S))) := by
  subst hp; exact Go.mono (fun t k => XT.lcmp D.st.here D.ex rfl (hb D.cb hd) rfl k) hr
theorem g_idiv (D : Wk p l e R m args below meth c own bytes maxL Z I s' T locs cells slots h) (pc' : Nat) {x y : Int32} (hd : decode bytes pc = .ok (.idiv, 1)) (hy : y ≠ 0) (hp : pc + 1 = pc') (hr : Go p e below G (T.setTop (mkF m pc' Ls (.int (x / y) :: S)))) : Go p e below G (T.setTop (mkF m pc Ls (.int y :: .int x :: S))) := by
  subst hp; exact Go.mono (fun t k => XS.idiv D.st.here D.ex rfl (hb D.cb hd) rfl hy k) hr
theorem g_irem (D : Wk p l e R m args below meth c own bytes maxL Z I s' T locs cells slots h) (pc' : Nat) {x y : Int32} (hd : decode bytes pc = .ok (.irem, 1)) (hy : y ≠ 0) (hp : pc + 1 = pc') (hr : Go p e below G (T.setTop (mkF m pc' Ls (.int (x % y) :: S)))) : Go p e below G (T.setTop (mkF m pc Ls (.int y :: .int x :: S))) := by
  subst hp; exact Go.mono (fun t k => iremM D.st D.ex rfl (hb D.cb hd) rfl hy k) hr
theorem g_ineg (D : Wk p l e R m args below meth c own bytes maxL Z I s' T locs cells slots h) (pc' : Nat) {x : Int32} (hd : decode bytes pc = .ok (.ineg, 1)) (hp : pc + 1 = pc') (hr : Go p e below G (T.setTop (mkF m pc' Ls (.int (-x) :: S)))) : Go p e below G (T.setTop (mkF m pc Ls (.int x :: S))) := by
  subst hp; exact Go.mono (fun t k => XS.ineg D.st.here D.ex rfl (hb D.cb hd) rfl k) hr
theorem g_i2l (D : Wk p l e R m args below meth c own bytes maxL Z I s' T locs cells slots h) (pc' : Nat) {x : Int32} (hd : decode bytes pc = .ok (.i2l, 1)) (hp : pc + 1 = pc') (hr : Go p e below G (T.setTop (mkF m pc' Ls (.long (x.toInt64) :: S)))) : Go p e below G (T.setTop (mkF m pc Ls (.int x :: S))) := by
  subst hp; exact Go.mono (fun t k => XS.i2l D.st.here D.ex rfl (hb D.cb hd) rfl k) hr
theorem g_l2i (D : Wk p l e R m args below meth c own bytes maxL Z I s' T locs cells slots h) (pc' : Nat) {x : Int64} (hd : decode bytes pc = .ok (.l2i, 1)) (hp : pc + 1 = pc') (hr : Go p e below G (T.setTop (mkF m pc' Ls (.int (x.toInt32) :: S)))) : Go p e below G (T.setTop (mkF m pc Ls (.long x :: S))) := by
  subst hp; exact Go.mono (fun t k => XS.l2i D.st.here D.ex rfl (hb D.cb hd) rfl k) hr
theorem g_i2b (D : Wk p l e R m args below meth c own bytes maxL Z I s' T locs cells slots h) (pc' : Nat) {x : Int32} (hd : decode bytes pc = .ok (.i2b, 1)) (hp : pc + 1 = pc') (hr : Go p e below G (T.setTop (mkF m pc' Ls (.int (x.toInt8.toInt32) :: S)))) : Go p e below G (T.setTop (mkF m pc Ls (.int x :: S))) := by
  subst hp; exact Go.mono (fun t k => XS.i2b D.st.here D.ex rfl (hb D.cb hd) rfl k) hr
theorem g_i2c (D : Wk p l e R m args below meth c own bytes maxL Z I s' T locs cells slots h) (pc' : Nat) {x : Int32} (hd : decode bytes pc = .ok (.i2c, 1)) (hp : pc + 1 = pc') (hr : Go p e below G (T.setTop (mkF m pc' Ls (.int (x.toUInt32.toUInt16.toUInt32.toInt32) :: S)))) : Go p e below G (T.setTop (mkF m pc Ls (.int x :: S))) := by
  subst hp; exact Go.mono (fun t k => XS.i2c D.st.here D.ex rfl (hb D.cb hd) rfl k) hr
theorem g_i2s (D : Wk p l e R m args below meth c own bytes maxL Z I s' T locs cells slots h) (pc' : Nat) {x : Int32} (hd : decode bytes pc = .ok (.i2s, 1)) (hp : pc + 1 = pc') (hr : Go p e below G (T.setTop (mkF m pc' Ls (.int (x.toInt16.toInt32) :: S)))) : Go p e below G (T.setTop (mkF m pc Ls (.int x :: S))) := by
  subst hp; exact Go.mono (fun t k => XS.i2s D.st.here D.ex rfl (hb D.cb hd) rfl k) hr
theorem g_lneg (D : Wk p l e R m args below meth c own bytes maxL Z I s' T locs cells slots h) (pc' : Nat) {x : Int64} (hd : decode bytes pc = .ok (.lneg, 1)) (hp : pc + 1 = pc') (hr : Go p e below G (T.setTop (mkF m pc' Ls (.long (-x) :: S)))) : Go p e below G (T.setTop (mkF m pc Ls (.long x :: S))) := by
  subst hp; exact Go.mono (fun t k => XS.lneg D.st.here D.ex rfl (hb D.cb hd) rfl k) hr
theorem g_dup (D : Wk p l e R m args below meth c own bytes maxL Z I s' T locs cells slots h) (pc' : Nat) {x : Value} (hd : decode bytes pc = .ok (.dup, 1)) (hc : x.category = 1) (hp : pc + 1 = pc') (hr : Go p e below G (T.setTop (mkF m pc' Ls (x :: x :: S)))) : Go p e below G (T.setTop (mkF m pc Ls (x :: S))) := by
  subst hp; exact Go.mono (fun t k => XS.dup D.st.here D.ex rfl (hb D.cb hd) rfl hc k) hr
theorem g_pop (D : Wk p l e R m args below meth c own bytes maxL Z I s' T locs cells slots h) (pc' : Nat) {x : Value} (hd : decode bytes pc = .ok (.pop, 1)) (hc : x.category = 1) (hp : pc + 1 = pc') (hr : Go p e below G (T.setTop (mkF m pc' Ls S))) : Go p e below G (T.setTop (mkF m pc Ls (x :: S))) := by
  subst hp; exact Go.mono (fun t k => XS.pop D.st.here D.ex rfl (hb D.cb hd) rfl hc k) hr
theorem g_dupX1 (D : Wk p l e R m args below meth c own bytes maxL Z I s' T locs cells slots h) (pc' : Nat) {x y : Value} (hd : decode bytes pc = .ok (.dup_x1, 1)) (hc : x.category = 1) (hc' : y.category = 1) (hp : pc + 1 = pc') (hr : Go p e below G (T.setTop (mkF m pc' Ls (x :: y :: x :: S)))) : Go p e below G (T.setTop (mkF m pc Ls (x :: y :: S))) := by
  subst hp; exact Go.mono (fun t k => XS.dupX1 D.st.here D.ex rfl (hb D.cb hd) rfl hc hc' k) hr
theorem g_dup2 (D : Wk p l e R m args below meth c own bytes maxL Z I s' T locs cells slots h) (pc' : Nat) {x y : Value} (hd : decode bytes pc = .ok (.dup2, 1)) (hc : x.category = 1) (hc' : y.category = 1) (hp : pc + 1 = pc') (hr : Go p e below G (T.setTop (mkF m pc' Ls (x :: y :: x :: y :: S)))) : Go p e below G (T.setTop (mkF m pc Ls (x :: y :: S))) := by
  subst hp; exact Go.mono (fun t k => XT.dup2 D.st.here D.ex rfl (hb D.cb hd) rfl hc hc' k) hr
theorem g_dup2L (D : Wk p l e R m args below meth c own bytes maxL Z I s' T locs cells slots h) (pc' : Nat) {x : Int64} (hd : decode bytes pc = .ok (.dup2, 1)) (hp : pc + 1 = pc') (hr : Go p e below G (T.setTop (mkF m pc' Ls (.long x :: .long x :: S)))) : Go p e below G (T.setTop (mkF m pc Ls (.long x :: S))) := by
  subst hp; exact Go.mono (fun t k => XT.dup2L D.st.here D.ex rfl (hb D.cb hd) rfl k) hr
theorem g_iinc (D : Wk p l e R m args below meth c own bytes maxL Z I s' T locs cells slots h) (pc' : Nat) {k : Nat} {cst : Int} {x : Int32} (v : Int32) (l' : Array Slot) (hd : decode bytes pc = .ok (.iinc k cst, 3)) (hv : Int32.ofInt cst = v) (hl : Ls[k]? = some (.val (.int x))) (hl' : storeLocals Ls k (.int (x + v)) = some l') (hp : pc + 3 = pc') (hr : Go p e below G (T.setTop (mkF m pc' l' S))) : Go p e below G (T.setTop (mkF m pc Ls S)) := by
  subst hp; subst hv; exact Go.mono (fun t k => XS.iinc D.st.here D.ex rfl (hb D.cb hd) hl hl' k) hr
theorem g_goto (D : Wk p l e R m args below meth c own bytes maxL Z I s' T locs cells slots h) (pc' : Nat) {o : Int} (hd : decode bytes pc = .ok (.goto o, 3)) (ho : 0 ≤ (pc : Int) + o) (hp : ((pc : Int) + o).toNat = pc') (hr : Go p e below G (T.setTop (mkF m pc' Ls S))) : Go p e below G (T.setTop (mkF m pc Ls S)) :=
  Go.mono (fun t k => XS.goto D.st.here D.ex rfl rfl (hb D.cb hd) ho hp k) hr
theorem g_icmpY (D : Wk p l e R m args below meth c own bytes maxL Z I s' T locs cells slots h) (pc' : Nat) {cd : ClassFile.Cond} {x y : Int32} {o : Int} (hd : decode bytes pc = .ok (.if_icmp cd o, 3)) (hc : if_icmp.holds cd x y = true) (ho : 0 ≤ (pc : Int) + o) (hp : ((pc : Int) + o).toNat = pc') (hr : Go p e below G (T.setTop (mkF m pc' Ls S))) : Go p e below G (T.setTop (mkF m pc Ls (.int y :: .int x :: S))) :=
  Go.mono (fun t k => XS.icmpYes D.st.here D.ex rfl rfl (hb D.cb hd) rfl hc ho hp k) hr
theorem g_icmpN (D : Wk p l e R m args below meth c own bytes maxL Z I s' T locs cells slots h) (pc' : Nat) {cd : ClassFile.Cond} {x y : Int32} {o : Int} (hd : decode bytes pc = .ok (.if_icmp cd o, 3)) (hc : if_icmp.holds cd x y = false) (hp : pc + 3 = pc') (hr : Go p e below G (T.setTop (mkF m pc' Ls S))) : Go p e below G (T.setTop (mkF m pc Ls (.int y :: .int x :: S))) := by
  subst hp; exact Go.mono (fun t k => XS.icmpNo D.st.here D.ex rfl (hb D.cb hd) rfl hc k) hr
theorem g_ifY (D : Wk p l e R m args below meth c own bytes maxL Z I s' T locs cells slots h) (pc' : Nat) {cd : ClassFile.Cond} {x : Int32} {o : Int} (hd : decode bytes pc = .ok (.ifCond cd o, 3)) (hc : if_icmp.holds cd x 0 = true) (ho : 0 ≤ (pc : Int) + o) (hp : ((pc : Int) + o).toNat = pc') (hr : Go p e below G (T.setTop (mkF m pc' Ls S))) : Go p e below G (T.setTop (mkF m pc Ls (.int x :: S))) :=
  Go.mono (fun t k => XS.ifYes D.st.here D.ex rfl rfl (hb D.cb hd) rfl ((if0 _ _).trans hc) ho hp k) hr
theorem g_ifN (D : Wk p l e R m args below meth c own bytes maxL Z I s' T locs cells slots h) (pc' : Nat) {cd : ClassFile.Cond} {x : Int32} {o : Int} (hd : decode bytes pc = .ok (.ifCond cd o, 3)) (hc : if_icmp.holds cd x 0 = false) (hp : pc + 3 = pc') (hr : Go p e below G (T.setTop (mkF m pc' Ls S))) : Go p e below G (T.setTop (mkF m pc Ls (.int x :: S))) := by
  subst hp; exact Go.mono (fun t k => XS.ifNo D.st.here D.ex rfl (hb D.cb hd) rfl ((if0 _ _).trans hc) k) hr
theorem g_nullY (D : Wk p l e R m args below meth c own bytes maxL Z I s' T locs cells slots h) (pc' : Nat) {o : Int} (hd : decode bytes pc = .ok (.ifnull o, 3)) (ho : 0 ≤ (pc : Int) + o) (hp : ((pc : Int) + o).toNat = pc') (hr : Go p e below G (T.setTop (mkF m pc' Ls S))) : Go p e below G (T.setTop (mkF m pc Ls (.null :: S))) :=
  Go.mono (fun t k => XS.ifnullYes D.st.here D.ex rfl rfl (hb D.cb hd) rfl ho hp k) hr
theorem g_nullN (D : Wk p l e R m args below meth c own bytes maxL Z I s' T locs cells slots h) (pc' : Nat) {o : Int} {b : Addr} (hd : decode bytes pc = .ok (.ifnull o, 3)) (hp : pc + 3 = pc') (hr : Go p e below G (T.setTop (mkF m pc' Ls S))) : Go p e below G (T.setTop (mkF m pc Ls (.ref b :: S))) := by
  subst hp; exact Go.mono (fun t k => XS.ifnullNo D.st.here D.ex rfl (hb D.cb hd) rfl k) hr
theorem g_nnY (D : Wk p l e R m args below meth c own bytes maxL Z I s' T locs cells slots h) (pc' : Nat) {o : Int} {b : Addr} (hd : decode bytes pc = .ok (.ifnonnull o, 3)) (ho : 0 ≤ (pc : Int) + o) (hp : ((pc : Int) + o).toNat = pc') (hr : Go p e below G (T.setTop (mkF m pc' Ls S))) : Go p e below G (T.setTop (mkF m pc Ls (.ref b :: S))) :=
  Go.mono (fun t k => XS.ifnonnullYes D.st.here D.ex rfl rfl (hb D.cb hd) rfl ho hp k) hr
theorem g_nnN (D : Wk p l e R m args below meth c own bytes maxL Z I s' T locs cells slots h) (pc' : Nat) {o : Int} (hd : decode bytes pc = .ok (.ifnonnull o, 3)) (hp : pc + 3 = pc') (hr : Go p e below G (T.setTop (mkF m pc' Ls S))) : Go p e below G (T.setTop (mkF m pc Ls (.null :: S))) := by
  subst hp; exact Go.mono (fun t k => XS.ifnonnullNo D.st.here D.ex rfl (hb D.cb hd) rfl k) hr
theorem g_acmp (D : Wk p l e R m args below meth c own bytes maxL Z I s' T locs cells slots h) (pc' : Nat) {cd : ACond} {x y : Value} {o : Int} (hd : decode bytes pc = .ok (.if_acmp cd o, 3)) (h1 : x.isRef = true) (h2 : y.isRef = true) {same : Bool} (hq : decide (x = y) = same) (ho : 0 ≤ (pc : Int) + o) (hp : pc' = if acV cd same = true then ((pc : Int) + o).toNat else pc + 3) (hr : Go p e below G (T.setTop (mkF m pc' Ls S))) : Go p e below G (T.setTop (mkF m pc Ls (y :: x :: S))) :=
  Go.mono (fun t k => Jvm.RoadKit.acmp (g := mkF m pc Ls (y :: x :: S)) D.st D.ex rfl h1 h2 rfl (hb D.cb hd) rfl hq ho hp k) hr
theorem g_ldcI (D : Wk p l e R m args below meth c own bytes maxL Z I s' T locs cells slots h) (pc' : Nat) {index : Nat} {v : Int32} (w : (Cond.constant own index v).before a0 Z = true) (hd : decode bytes pc = .ok (.ldc index, 2)) (hp : pc + 2 = pc') (hr : Go p e below G (T.setTop (mkF m pc' Ls (.int v :: S)))) : Go p e below G (T.setTop (mkF m pc Ls S)) := by
  subst hp; exact Go.mono (fun t k => Jvm.Stand.ldcI D.st D.ex D.ow (mv D.wm w) rfl (hb D.cb hd) k) hr
theorem g_ldcWI (D : Wk p l e R m args below meth c own bytes maxL Z I s' T locs cells slots h) (pc' : Nat) {index : Nat} {v : Int32} (w : (Cond.constant own index v).before a0 Z = true) (hd : decode bytes pc = .ok (.ldc_w index, 3)) (hp : pc + 3 = pc') (hr : Go p e below G (T.setTop (mkF m pc' Ls (.int v :: S)))) : Go p e below G (T.setTop (mkF m pc Ls S)) := by
  subst hp; exact Go.mono (fun t k => Jvm.Stand.ldcWI D.st D.ex D.ow (mv D.wm w) rfl (hb D.cb hd) k) hr
theorem g_ldc2J (D : Wk p l e R m args below meth c own bytes maxL Z I s' T locs cells slots h) (pc' : Nat) {index : Nat} {v : Int64} (w : (Cond.constantLong own index v).before a0 Z = true) (hd : decode bytes pc = .ok (.ldc2_w index, 3)) (hp : pc + 3 = pc') (hr : Go p e below G (T.setTop (mkF m pc' Ls (.long v :: S)))) : Go p e below G (T.setTop (mkF m pc Ls S)) := by
  subst hp; exact Go.mono (fun t k => Jvm.Stand.ldc2J D.st D.ex D.ow (mv D.wm w) rfl (hb D.cb hd) k) hr
theorem g_lswHit (D : Wk p l e R m args below meth c own bytes maxL Z I s' T locs cells slots h) (pc' : Nat) {k : Int32} {dflt : Int} {ps : Array (Int × Int)} {len : Nat} {a o : Int} (hd : decode bytes pc = .ok (.lookupswitch dflt ps, len)) (hso : (ps.toList.zip (ps.toList.drop 1)).all (fun (a, next) => a.1 < next.1) = true) (hf : ps.find? (·.1 == k.toInt) = some (a, o)) (ho : 0 ≤ (pc : Int) + o) (hp : ((pc : Int) + o).toNat = pc') (hr : Go p e below G (T.setTop (mkF m pc' Ls S))) : Go p e below G (T.setTop (mkF m pc Ls (.int k :: S))) := by
  subst hp; exact Go.mono (fun t q => D.st.lookupswitchHit D.ex (g := mkF m pc Ls (.int k :: S)) rfl (k := k) (rest := S) rfl (hb D.cb hd) hso hf ho _ q) hr
theorem g_lswMiss (D : Wk p l e R m args below meth c own bytes maxL Z I s' T locs cells slots h) (pc' : Nat) {k : Int32} {dflt : Int} {ps : Array (Int × Int)} {len : Nat} (hd : decode bytes pc = .ok (.lookupswitch dflt ps, len)) (hso : (ps.toList.zip (ps.toList.drop 1)).all (fun (a, next) => a.1 < next.1) = true) (hf : ps.find? (·.1 == k.toInt) = none) (ho : 0 ≤ (pc : Int) + dflt) (hp : ((pc : Int) + dflt).toNat = pc') (hr : Go p e below G (T.setTop (mkF m pc' Ls S))) : Go p e below G (T.setTop (mkF m pc Ls (.int k :: S))) := by
  subst hp; exact Go.mono (fun t q => D.st.lookupswitchMiss D.ex (g := mkF m pc Ls (.int k :: S)) rfl (k := k) (rest := S) rfl (hb D.cb hd) hso hf ho _ q) hr
theorem g_tswIn (D : Wk p l e R m args below meth c own bytes maxL Z I s' T locs cells slots h) (pc' : Nat) {i : Int32} {dflt low high : Int} {offs : Array Int} {len : Nat} {o : Int} (hd : decode bytes pc = .ok (.tableswitch dflt low high offs, len)) (hin : ¬ (i.toInt < low ∨ i.toInt > high)) (hoff : offs[(i.toInt - low).toNat]? = some o) (ho : 0 ≤ (pc : Int) + o) (hp : ((pc : Int) + o).toNat = pc') (hr : Go p e below G (T.setTop (mkF m pc' Ls S))) : Go p e below G (T.setTop (mkF m pc Ls (.int i :: S))) :=
  Go.mono (fun t k => XS.tswIn D.st.here D.ex rfl rfl (hb D.cb hd) rfl hin hoff ho hp k) hr
theorem g_getF (D : Wk p l e R m args below meth c own bytes maxL Z I s' T locs cells slots h) (pc' : Nat) {R0 O n d : String} {index : Nat} (w : (Cond.fieldLink own index R0 n d).before a0 Z = true) (via : Via Z R0 O n d) {a : Addr} {v : Value} (F : Fld Z h a O n d v) (hd : decode bytes pc = .ok (.getfield index, 3)) (hp : pc + 3 = pc')
    (hr : ∀ T', Wk p l e R m args below meth c own bytes maxL Z I s' T' locs cells slots h → Go p e below G (T'.setTop (mkF m pc' Ls (v :: S)))) : Go p e below G (T.setTop (mkF m pc Ls (.ref a :: S))) := by
  subst hp
  obtain ⟨T', X', e', st⟩ := getF D.st D.ex D.wm D.ow (host := "") (Or.inl w) via D.eq F (g := mkF m pc Ls (.ref a :: S)) rfl rfl (hb D.cb hd)
  exact Go.mono st (hr T' (D.mk' X' e' D.iv))
theorem g_getS (D : Wk p l e R m args below meth c own bytes maxL Z I s' T locs cells slots h) (pc' : Nat) {R0 O n d : String} {index : Nat} (w : (Cond.fieldLink own index R0 n d).before a0 Z = true) (via : Via Z R0 O n d) {v : Value} (F : Sta Z h O n d v) (hd : decode bytes pc = .ok (.getstatic index, 3)) (hp : pc + 3 = pc')
    (hr : ∀ T', Wk p l e R m args below meth c own bytes maxL Z I s' T' locs cells slots h → Go p e below G (T'.setTop (mkF m pc' Ls (v :: S)))) : Go p e below G (T.setTop (mkF m pc Ls S)) := by
  subst hp
  obtain ⟨T', X', e', st⟩ := getS (host := "") D.st D.ex D.wm D.ow w via D.eq F (g := mkF m pc Ls S) rfl (hb D.cb hd)
  exact Go.mono st (hr T' (D.mk' X' e' D.iv))
theorem g_putF (D : Wk p l e R m args below meth c own bytes maxL Z I s' T locs cells slots h) (pc' : Nat) {R0 O n d C : String} {index kk : Nat} {ty : FieldType} (w : (Cond.fieldLink own index R0 n d).before a0 Z = true) (via : Via Z R0 O n d) {a : Addr} {v old : Value} (F : Fld Z h a O n d old) (E : Exa Z h a C)
    (L : (Cond.lays C O n d).before a0 Z = true ∨ ((Cond.laysFinal C O n d).before a0 Z = true ∧ own = O ∧ meth.name = "<init>")) (wi : (Cond.instantiable C kk).before a0 Z = true) (hty : parseFieldDescriptor d = some ty) (hn : narrow ty v = v) (hf : fits ty v = true)
    (hI : ∀ h', Wr h h' a (RoadKit.slotOf Z O n d) v → I s' h') (hd : decode bytes pc = .ok (.putfield index, 3)) (hp : pc + 3 = pc')
    (hr : ∀ T' h', Wr h h' a (RoadKit.slotOf Z O n d) v → Wk p l e R m args below meth c own bytes maxL Z I s' T' (locs ++ [⟨a, RoadKit.slotOf Z O n d⟩]) cells slots h' → Go p e below G (T'.setTop (mkF m pc' Ls S))) : Go p e below G (T.setTop (mkF m pc Ls (v :: .ref a :: S))) := by
  subst hp
  obtain ⟨T', h', X', e', W', st⟩ := putF D.st D.ex D.wm D.ow (host := "") (Or.inl w) via D.eq F E L wi hty hn hf (g := mkF m pc Ls (v :: .ref a :: S)) rfl rfl (hb D.cb hd)
  exact Go.mono st (hr T' h' W' (D.mk' X' e' (hI h' W')))
theorem g_newO (D : Wk p l e R m args below meth c own bytes maxL Z I s' T locs cells slots h) (pc' : Nat) {C : String} {index n : Nat} (w : (Cond.classLink own index C).before a0 Z = true) (wi : (Cond.instantiable C n).before a0 Z = true) (wz : (Cond.initialized C).before a0 Z = true) (hd : decode bytes pc = .ok (.new index, 3)) (hc : cells + 1 ≤ R.cells) (hl : slots + n ≤ R.slots) (hI : ∀ h', Ext h h' → I s' h') (hp : pc + 3 = pc')
    (hr : ∀ T' h' a, a = h.size → Ext h h' → Exa Z h' a C → (∀ {O nm d : String} {ty : FieldType}, Laid Z a0 C O nm d → parseFieldDescriptor d = some ty → Fld Z h' a O nm d (defaultValue ty)) → Wk p l e R m args below meth c own bytes maxL Z I s' T' locs (cells + 1) (slots + n) h' → Go p e below G (T'.setTop (mkF m pc' Ls (.ref a :: S)))) : Go p e below G (T.setTop (mkF m pc Ls S)) := by
  subst hp
  obtain ⟨T', h', X', e', E', A', D', -, st⟩ := newO D.st D.ex D.wm D.ow w wi wz D.eq (g := mkF m pc Ls S) rfl (hb D.cb hd) hc hl
  exact Go.mono st (hr T' h' _ rfl E' A' D' (D.mk' X' e' (hI h' E')))
theorem g_newP (D : Wk p l e R m args below meth c own bytes maxL Z I s' T locs cells slots h) (pc' : Nat) {aty : ArrayType} (w : (Cond.arrayClass (newarray.typeOf aty)).before a0 Z = true) {n : Int32} (hd : decode bytes pc = .ok (.newarray aty, 2)) (hn : ¬ n < 0) {cap : Nat} (hcap : n.toNatClampNeg ≤ cap) (hb' : cap * 8 ≤ 536870912) (hc : cells + 1 ≤ R.cells) (hl : slots + cap ≤ R.slots) (hI : ∀ h', Ext h h' → I s' h') (hp : pc + 2 = pc')
    (hr : ∀ T' h' a k, a = h.size → Ext h h' → Arv Z h' a k (newarray.typeOf aty) n [] (defaultValue (newarray.typeOf aty)) → Wk p l e R m args below meth c own bytes maxL Z I s' T' locs (cells + 1) (slots + cap) h' → Go p e below G (T'.setTop (mkF m pc' Ls (.ref a :: S)))) : Go p e below G (T.setTop (mkF m pc Ls (.int n :: S))) := by
  subst hp
  obtain ⟨T', h', k, X', e', E', A', st⟩ := newP D.st D.ex D.wm w D.eq (g := mkF m pc Ls (.int n :: S)) rfl (hb D.cb hd) rfl hn hcap hb' hc hl
  exact Go.mono st (hr T' h' _ k rfl E' (Arv.new A' hn) (D.mk' X' e' (hI h' E')))
theorem g_castY (D : Wk p l e R m args below meth c own bytes maxL Z I s' T locs cells slots h) (pc' : Nat) {K : String} {index : Nat} (w : (Cond.classLink own index K).before a0 Z = true) {a : Addr} (F : Ins Z h a K true) (hd : decode bytes pc = .ok (.checkcast index, 3)) (hp : pc + 3 = pc')
    (hr : ∀ T', Wk p l e R m args below meth c own bytes maxL Z I s' T' locs cells slots h → Go p e below G (T'.setTop (mkF m pc' Ls (.ref a :: S)))) : Go p e below G (T.setTop (mkF m pc Ls (.ref a :: S))) := by
  subst hp
  obtain ⟨T', X', e', st⟩ := castY D.st D.ex D.wm D.ow w D.eq F (g := mkF m pc Ls (.ref a :: S)) rfl rfl (hb D.cb hd)
  exact Go.mono st (hr T' (D.mk' X' e' D.iv))
theorem g_instY (D : Wk p l e R m args below meth c own bytes maxL Z I s' T locs cells slots h) (pc' : Nat) {K : String} {index : Nat} (w : (Cond.classLink own index K).before a0 Z = true) {a : Addr} (F : Ins Z h a K true) (hd : decode bytes pc = .ok (.instanceof index, 3)) (hp : pc + 3 = pc')
    (hr : ∀ T', Wk p l e R m args below meth c own bytes maxL Z I s' T' locs cells slots h → Go p e below G (T'.setTop (mkF m pc' Ls (.int 1 :: S)))) : Go p e below G (T.setTop (mkF m pc Ls (.ref a :: S))) := by
  subst hp
  obtain ⟨T', X', e', st⟩ := instY D.st D.ex D.wm D.ow w D.eq F (g := mkF m pc Ls (.ref a :: S)) rfl rfl (hb D.cb hd)
  exact Go.mono st (hr T' (D.mk' X' e' D.iv))
theorem g_instNo (D : Wk p l e R m args below meth c own bytes maxL Z I s' T locs cells slots h) (pc' : Nat) {K C : String} {index : Nat} (w : (Cond.classLink own index K).before a0 Z = true) {a : Addr} (E : Exa Z h a C) (F : ∃ c t, Z.vm.findClass C = some c ∧ Z.vm.findClass K = some t ∧ Z.vm.assignable c t = false) (hd : decode bytes pc = .ok (.instanceof index, 3)) (hp : pc + 3 = pc')
    (hr : ∀ T', Wk p l e R m args below meth c own bytes maxL Z I s' T' locs cells slots h → Go p e below G (T'.setTop (mkF m pc' Ls (.int 0 :: S)))) : Go p e below G (T.setTop (mkF m pc Ls (.ref a :: S))) := by
  subst hp
  obtain ⟨T', X', e', st⟩ := instNo D.st D.ex D.wm D.ow w D.eq E F (g := mkF m pc Ls (.ref a :: S)) rfl rfl (hb D.cb hd)
  exact Go.mono st (hr T' (D.mk' X' e' D.iv))
theorem g_instNull (D : Wk p l e R m args below meth c own bytes maxL Z I s' T locs cells slots h) (pc' : Nat) {index : Nat} (hd : decode bytes pc = .ok (.instanceof index, 3)) (hp : pc + 3 = pc') (hr : Go p e below G (T.setTop (mkF m pc' Ls (.int 0 :: S)))) : Go p e below G (T.setTop (mkF m pc Ls (.null :: S))) := by
  subst hp
  exact Go.mono (fun t k => D.st.instanceofNull D.ex (g := mkF m pc Ls (.null :: S)) rfl rfl (hb D.cb hd) t k) hr
theorem g_alen (D : Wk p l e R m args below meth c own bytes maxL Z I s' T locs cells slots h) (pc' : Nat) {a : Addr} {k : ClassId} {ty : FieldType} {n : Int32} {vs : List Value} {d : Value} (V : Arv Z h a k ty n vs d) (hd : decode bytes pc = .ok (.arraylength, 1)) (hp : pc + 1 = pc') (hr : Go p e below G (T.setTop (mkF m pc' Ls (.int n :: S)))) : Go p e below G (T.setTop (mkF m pc Ls (.ref a :: S))) := by
  subst hp
  obtain ⟨cl, A, -, q, q', -⟩ := V
  refine Go.mono (fun t k => D.st.arraylength D.ex (by rw [D.eq]; exact A.1) (State.isArrayOf_alike D.wm.alike A.2.1) (g := mkF m pc Ls (.ref a :: S)) rfl rfl (hb D.cb hd) t k) ?_
  rw [len_of q q']; exact hr
theorem g_caload (D : Wk p l e R m args below meth c own bytes maxL Z I s' T locs cells slots h) (pc' : Nat) {a : Addr} {k : ClassId} {n j : Int32} {vs : List Value} {d v : Value} (V : Arv Z h a k .char n vs d) (hj : ¬ j < 0 ∧ j < n) (hv : vs.getD j.toNatClampNeg d = v) (hd : decode bytes pc = .ok (.caload, 1)) (hp : pc + 1 = pc') (hr : Go p e below G (T.setTop (mkF m pc' Ls (v :: S)))) : Go p e below G (T.setTop (mkF m pc Ls (.int j :: .ref a :: S))) := by
  subst hp
  obtain ⟨cl, A, -, q, q', H, -⟩ := V
  exact Go.mono (fun t k => D.st.caload D.ex (by rw [D.eq]; exact A.1) (State.isArrayOf_alike D.wm.alike A.2.1) A.2.2 (inb_of q hj) (H.at (inb_of q hj) hv) (g := mkF m pc Ls (.int j :: .ref a :: S)) rfl rfl (hb D.cb hd) t k) hr
theorem g_baload (D : Wk p l e R m args below meth c own bytes maxL Z I s' T locs cells slots h) (pc' : Nat) {a : Addr} {k : ClassId} {n j : Int32} {vs : List Value} {d v : Value} (V : Arv Z h a k .byte n vs d) (hj : ¬ j < 0 ∧ j < n) (hv : vs.getD j.toNatClampNeg d = v) (hd : decode bytes pc = .ok (.baload, 1)) (hp : pc + 1 = pc') (hr : Go p e below G (T.setTop (mkF m pc' Ls (v :: S)))) : Go p e below G (T.setTop (mkF m pc Ls (.int j :: .ref a :: S))) := by
  subst hp
  obtain ⟨cl, A, -, q, q', H, -⟩ := V
  exact Go.mono (fun t k => D.st.baloadBytes D.ex (by rw [D.eq]; exact A.1) (State.isArrayOf_alike D.wm.alike A.2.1) A.2.2 (inb_of q hj) (H.at (inb_of q hj) hv) (g := mkF m pc Ls (.int j :: .ref a :: S)) rfl rfl (hb D.cb hd) t k) hr
theorem g_iaload (D : Wk p l e R m args below meth c own bytes maxL Z I s' T locs cells slots h) (pc' : Nat) {a : Addr} {k : ClassId} {n j : Int32} {vs : List Value} {d v : Value} (V : Arv Z h a k .int n vs d) (hj : ¬ j < 0 ∧ j < n) (hv : vs.getD j.toNatClampNeg d = v) (hd : decode bytes pc = .ok (.iaload, 1)) (hp : pc + 1 = pc') (hr : Go p e below G (T.setTop (mkF m pc' Ls (v :: S)))) : Go p e below G (T.setTop (mkF m pc Ls (.int j :: .ref a :: S))) := by
  subst hp
  obtain ⟨cl, A, -, q, q', H, -⟩ := V
  exact Go.mono (fun t k => D.st.iaload D.ex (by rw [D.eq]; exact A.1) (State.isArrayOf_alike D.wm.alike A.2.1) A.2.2 (inb_of q hj) (H.at (inb_of q hj) hv) (g := mkF m pc Ls (.int j :: .ref a :: S)) rfl rfl (hb D.cb hd) t k) hr
theorem g_laload (D : Wk p l e R m args below meth c own bytes maxL Z I s' T locs cells slots h) (pc' : Nat) {a : Addr} {k : ClassId} {n j : Int32} {vs : List Value} {d v : Value} (V : Arv Z h a k .long n vs d) (hj : ¬ j < 0 ∧ j < n) (hv : vs.getD j.toNatClampNeg d = v) (hd : decode bytes pc = .ok (.laload, 1)) (hp : pc + 1 = pc') (hr : Go p e below G (T.setTop (mkF m pc' Ls (v :: S)))) : Go p e below G (T.setTop (mkF m pc Ls (.int j :: .ref a :: S))) := by
  subst hp
  obtain ⟨cl, A, -, q, q', H, -⟩ := V
  exact Go.mono (fun t k => D.st.laload D.ex (by rw [D.eq]; exact A.1) (State.isArrayOf_alike D.wm.alike A.2.1) A.2.2 (inb_of q hj) (H.at (inb_of q hj) hv) (g := mkF m pc Ls (.int j :: .ref a :: S)) rfl rfl (hb D.cb hd) t k) hr
theorem g_aaload (D : Wk p l e R m args below meth c own bytes maxL Z I s' T locs cells slots h) (pc' : Nat) {a : Addr} {k : ClassId} {n j : Int32} {ty : FieldType} {vs : List Value} {d v : Value} (V : Arv Z h a k ty n vs d) (hty : ty.isReference = true) (hj : ¬ j < 0 ∧ j < n) (hv : vs.getD j.toNatClampNeg d = v) (hd : decode bytes pc = .ok (.aaload, 1)) (hp : pc + 1 = pc') (hr : Go p e below G (T.setTop (mkF m pc' Ls (v :: S)))) : Go p e below G (T.setTop (mkF m pc Ls (.int j :: .ref a :: S))) := by
  subst hp
  obtain ⟨cl, A, -, q, q', H, -⟩ := V
  exact Go.mono (fun t k => D.st.aaload D.ex (by rw [D.eq]; exact A.1) (State.isArrayOf_alike D.wm.alike A.2.1) hty A.2.2 (inb_of q hj) (H.at (inb_of q hj) hv) (g := mkF m pc Ls (.int j :: .ref a :: S)) rfl rfl (hb D.cb hd) t k) hr
theorem g_castore (D : Wk p l e R m args below meth c own bytes maxL Z I s' T locs cells slots h) (pc' : Nat) {a : Addr} {k : ClassId} {n j : Int32} {x : Int32} {vs : List Value} {d : Value} (V : Arv Z h a k .char n vs d) (hj : ¬ j < 0 ∧ j < n) (i : Nat) (hi : j.toNatClampNeg = i) (hv : i < vs.length) (hI : ∀ h', Wr h h' a j.toNatClampNeg (.int (nar .char x)) → I s' h') (hd : decode bytes pc = .ok (.castore, 1)) (hp : pc + 1 = pc')
    (hr : ∀ T' h', Wr h h' a j.toNatClampNeg (.int (nar .char x)) → Arv Z h' a k .char n (vs.set i (.int (nar .char x))) d → Wk p l e R m args below meth c own bytes maxL Z I s' T' (locs ++ [⟨a, j.toNatClampNeg⟩]) cells slots h' → Go p e below G (T'.setTop (mkF m pc' Ls S))) : Go p e below G (T.setTop (mkF m pc Ls (.int x :: .int j :: .ref a :: S))) := by
  subst hp
  obtain ⟨cl, A, q1, q, q', H, F⟩ := V
  obtain ⟨T', h', X', e', W', st⟩ := stC D.st D.ex D.wm D.eq A (inb_of q hj) (g := mkF m pc Ls (.int x :: .int j :: .ref a :: S)) rfl rfl (hb D.cb hd)
  exact Go.mono st (hr T' h' W' (Arv.set A q1 q q' H F (fits_nar_char _) W' i hi hv) (D.mk' X' e' (hI h' W')))
theorem g_bastore (D : Wk p l e R m args below meth c own bytes maxL Z I s' T locs cells slots h) (pc' : Nat) {a : Addr} {k : ClassId} {n j : Int32} {x : Int32} {vs : List Value} {d : Value} (V : Arv Z h a k .byte n vs d) (hj : ¬ j < 0 ∧ j < n) (i : Nat) (hi : j.toNatClampNeg = i) (hv : i < vs.length) (hI : ∀ h', Wr h h' a j.toNatClampNeg (.int (nar .byte x)) → I s' h') (hd : decode bytes pc = .ok (.bastore, 1)) (hp : pc + 1 = pc')
    (hr : ∀ T' h', Wr h h' a j.toNatClampNeg (.int (nar .byte x)) → Arv Z h' a k .byte n (vs.set i (.int (nar .byte x))) d → Wk p l e R m args below meth c own bytes maxL Z I s' T' (locs ++ [⟨a, j.toNatClampNeg⟩]) cells slots h' → Go p e below G (T'.setTop (mkF m pc' Ls S))) : Go p e below G (T.setTop (mkF m pc Ls (.int x :: .int j :: .ref a :: S))) := by
  subst hp
  obtain ⟨cl, A, q1, q, q', H, F⟩ := V
  obtain ⟨T', h', X', e', W', st⟩ := stB D.st D.ex D.wm D.eq A (inb_of q hj) (g := mkF m pc Ls (.int x :: .int j :: .ref a :: S)) rfl rfl (hb D.cb hd)
  exact Go.mono st (hr T' h' W' (Arv.set A q1 q q' H F (fits_nar_byte _) W' i hi hv) (D.mk' X' e' (hI h' W')))
theorem g_iastore (D : Wk p l e R m args below meth c own bytes maxL Z I s' T locs cells slots h) (pc' : Nat) {a : Addr} {k : ClassId} {n j : Int32} {x : Int32} {vs : List Value} {d : Value} (V : Arv Z h a k .int n vs d) (hj : ¬ j < 0 ∧ j < n) (i : Nat) (hi : j.toNatClampNeg = i) (hv : i < vs.length) (hI : ∀ h', Wr h h' a j.toNatClampNeg (.int x) → I s' h') (hd : decode bytes pc = .ok (.iastore, 1)) (hp : pc + 1 = pc')
    (hr : ∀ T' h', Wr h h' a j.toNatClampNeg (.int x) → Arv Z h' a k .int n (vs.set i (.int x)) d → Wk p l e R m args below meth c own bytes maxL Z I s' T' (locs ++ [⟨a, j.toNatClampNeg⟩]) cells slots h' → Go p e below G (T'.setTop (mkF m pc' Ls S))) : Go p e below G (T.setTop (mkF m pc Ls (.int x :: .int j :: .ref a :: S))) := by
  subst hp
  obtain ⟨cl, A, q1, q, q', H, F⟩ := V
  obtain ⟨T', h', X', e', W', st⟩ := stI D.st D.ex D.wm D.eq A (inb_of q hj) (g := mkF m pc Ls (.int x :: .int j :: .ref a :: S)) rfl rfl (hb D.cb hd)
  exact Go.mono st (hr T' h' W' (Arv.set A q1 q q' H F rfl W' i hi hv) (D.mk' X' e' (hI h' W')))
theorem g_lastore (D : Wk p l e R m args below meth c own bytes maxL Z I s' T locs cells slots h) (pc' : Nat) {a : Addr} {k : ClassId} {n j : Int32} {x : Int64} {vs : List Value} {d : Value} (V : Arv Z h a k .long n vs d) (hj : ¬ j < 0 ∧ j < n) (i : Nat) (hi : j.toNatClampNeg = i) (hv : i < vs.length) (hI : ∀ h', Wr h h' a j.toNatClampNeg (.long x) → I s' h') (hd : decode bytes pc = .ok (.lastore, 1)) (hp : pc + 1 = pc')
    (hr : ∀ T' h', Wr h h' a j.toNatClampNeg (.long x) → Arv Z h' a k .long n (vs.set i (.long x)) d → Wk p l e R m args below meth c own bytes maxL Z I s' T' (locs ++ [⟨a, j.toNatClampNeg⟩]) cells slots h' → Go p e below G (T'.setTop (mkF m pc' Ls S))) : Go p e below G (T.setTop (mkF m pc Ls (.long x :: .int j :: .ref a :: S))) := by
  subst hp
  obtain ⟨cl, A, q1, q, q', H, F⟩ := V
  obtain ⟨T', h', X', e', W', st⟩ := stJ D.st D.ex D.wm D.eq A (inb_of q hj) (g := mkF m pc Ls (.long x :: .int j :: .ref a :: S)) rfl rfl (hb D.cb hd)
  exact Go.mono st (hr T' h' W' (Arv.set A q1 q q' H F rfl W' i hi hv) (D.mk' X' e' (hI h' W')))
theorem g_initO (D : Wk p l e R m args below meth c own bytes maxL Z I s' T locs cells slots h) (pc' : Nat) {idx : Nat} (w1 : (Cond.methodLink own idx Lib.objectInit).before a0 Z = true) (w2 : (Cond.instanceMethod Lib.objectInit).before a0 Z = true) (w3 : (Cond.code Lib.objectInit ⟨#[0xb1]⟩ 1 none).before a0 Z = true) (hsz : Ls.size = maxL) {a : Addr} (hd : decode bytes pc = .ok (.invokespecial idx, 3)) (hf : 1 ≤ R.frames) {W : Nat} (hW : (S.map fun v => v.category).sum ≤ W) (hl : W + 12 ≤ R.locals) (hp : pc + 3 = pc')
    (hr : ∀ T', Wk p l e R m args below meth c own bytes maxL Z I s' T' locs cells slots h → Go p e below G (T'.setTop (mkF m pc' Ls S))) : Go p e below G (T.setTop (mkF m pc Ls (.ref a :: S))) := by
  subst hp
  obtain ⟨T', X', e', st⟩ := initO D.st D.ex D.wm D.ow w1 w2 w3 D.eq (g := mkF m pc Ls (.ref a :: S)) rfl (by rw [D.ml]; exact hsz) rfl (hb D.cb hd) hf (W := W) (by simpa using hW) hl
  exact Go.mono st (hr T' (D.mk' X' e' D.iv))
theorem g_clone (D : Wk p l e R m args below meth c own bytes maxL Z I s' T locs cells slots h) (pc' : Nat) {ad : String} {index : Nat} (w1 : (Cond.methodLink own index ⟨ad, "clone", "()Ljava/lang/Object;"⟩).before a0 Z = true) (w2 : (Cond.sameMethod ad "java/lang/Object" "clone" "()Ljava/lang/Object;").before a0 Z = true) (w3 : (Cond.native ⟨"java/lang/Object", "clone", "()Ljava/lang/Object;"⟩).before a0 Z = true) (w4 : (Cond.instanceMethod ⟨"java/lang/Object", "clone", "()Ljava/lang/Object;"⟩).before a0 Z = true) (w5 : (Cond.selects ad ⟨ad, "clone", "()Ljava/lang/Object;"⟩ ⟨"java/lang/Object", "clone", "()Ljava/lang/Object;"⟩).before a0 Z = true) (w6 : (Cond.castable ad "java/lang/Cloneable").before a0 Z = true)
    {a : Addr} {k : ClassId} {ty : FieldType} {z : Int32} {vs : List Value} {dv : Value} (F : Arv Z h a k ty z vs dv) (E : Exa Z h a ad) (hsz : Ls.size = maxL) (hd : decode bytes pc = .ok (.invokevirtual index, 3)) (hf : 1 ≤ R.frames) {W cap : Nat} (hW : (S.map fun v => v.category).sum ≤ W) (hl : W + 14 ≤ R.locals) (hcap : z.toNatClampNeg ≤ cap) (hc : cells + 1 ≤ R.cells) (hsl : slots + cap ≤ R.slots) (hI : ∀ h', Ext h h' → I s' h') (hp : pc + 3 = pc')
    (hr : ∀ T' h' b, b = h.size → Ext h h' → Arv Z h' b k ty z vs dv → Exa Z h' b ad → Wk p l e R m args below meth c own bytes maxL Z I s' T' locs (cells + 1) (slots + cap) h' → Go p e below G (T'.setTop (mkF m pc' Ls (.ref b :: S)))) : Go p e below G (T.setTop (mkF m pc Ls (.ref a :: S))) := by
  subst hp
  obtain ⟨T', h', X', e', E', A', B', st⟩ := cloneH D.st D.ex D.wm D.ow w1 w2 w3 w4 w5 w6 D.eq F.arh E (g := mkF m pc Ls (.ref a :: S)) rfl (by rw [D.ml]; exact hsz) rfl (hb D.cb hd) hf (by simpa using hW) hl hcap hc hsl
  exact Go.mono st (hr T' h' _ rfl E' A' B' (D.mk' X' e' (hI h' E')))
theorem g_callS (D : Wk p l e R m args below meth c own bytes maxL Z I s' T locs cells slots h) (pc' : Nat) {index : Nat} {y : MethodName} {bz : ByteArray} {mL : Nat} {ret' : Option FieldType} {W ck sk : Nat} {as' : Array Value} {Q : Option Value → Heap → List Loc → Prop} (w1 : (Cond.methodLink own index y).before a0 Z = true) (w2 : (Cond.static y).before a0 Z = true) (w3 : (Cond.initialized y.cls).before a0 Z = true) (w4 : (Cond.code y bz mL ret').before a0 Z = true) (hy : y.cls ≠ "java/lang/invoke/MethodHandle" ∧ y.cls ≠ "java/lang/invoke/VarHandle")
    (K : Back l R p e below s' args y 3 W (fun A a => a = as' ∧ A.U.heap = h ∧ A.cells + ck ≤ R.cells ∧ A.slots + sk ≤ R.slots) (fun A _ v B => ∃ L, Q v B.U.heap L ∧ B.locs = A.locs ++ L ∧ B.cells = A.cells + ck ∧ B.slots = A.slots + sk)) (hsz : Ls.size = maxL) (argsL : List Value) (has : argsL.toArray = as') (hlen : ∀ sig, parseMethodDescriptor y.desc = some sig → argsL.length = sig.parameters.length) {S0 : List Value} (hst : S0 = argsL.reverse ++ S) (hW : (S.map fun v => v.category).sum ≤ W) (hc : cells + ck ≤ R.cells) (hl : slots + sk ≤ R.slots) (hI : ∀ v h' L, Q v h' L → I s' h') (hd : decode bytes pc = .ok (.invokestatic index, 3)) (hp : pc + 3 = pc')
    (hr : ∀ v T' h' L, Q v h' L → Wk p l e R m args below meth c own bytes maxL Z I s' T' (locs ++ L) (cells + ck) (slots + sk) h' → Go p e below G (T'.setTop (mkF m pc' Ls (v.toList ++ S)))) : Go p e below G (T.setTop (mkF m pc Ls S0)) := by
  subst hp hst
  obtain ⟨v, _, ⟨T', L', k', n'⟩, -, X', ⟨L, hQ, l', y', z'⟩, st⟩ := Jvm.LawKit.callS D.st D.ex D.ow (mvT D.wm w1) (mvT D.wm w2) (mvT D.wm w3) (mvT D.wm w4) hy K (g := mkF m pc Ls (argsL.reverse ++ S)) rfl (by rw [D.ml]; exact hsz) (argsL := argsL) (rest := S) hlen rfl (by simpa using hW) (hb D.cb hd) (fun _ _ => ⟨has, D.eq, hc, hl⟩)
  dsimp only at X' l' y' z' st hQ
  subst l' y' z'
  exact Go.mono st (hr v T' _ L hQ (D.mk' X' rfl (hI v _ L hQ)))
theorem g_callV (D : Wk p l e R m args below meth c own bytes maxL Z I s' T locs cells slots h) (pc' : Nat) {index : Nat} {y z : MethodName} {C : String} {W ck sk : Nat} {as' : Array Value} {Q : Option Value → Heap → List Loc → Prop} (w1 : (Cond.methodLink own index y).before a0 Z = true) (w2 : (Cond.declares y).before a0 Z = true) (hnf : NotFace s' y) (w4 : (Cond.selects C y z).before a0 Z = true) (w5 : (Cond.instanceMethod z).before a0 Z = true) (hy : y.cls ≠ "java/lang/invoke/MethodHandle" ∧ y.cls ≠ "java/lang/invoke/VarHandle")
    (K : Back l R p e below s' args z 3 W (fun A a => a = as' ∧ A.U.heap = h ∧ A.cells + ck ≤ R.cells ∧ A.slots + sk ≤ R.slots) (fun A _ v B => ∃ L, Q v B.U.heap L ∧ B.locs = A.locs ++ L ∧ B.cells = A.cells + ck ∧ B.slots = A.slots + sk)) {b : Addr} (E : Exa Z h b C) (hsz : Ls.size = maxL) (argsL : List Value) (has : (.ref b :: argsL).toArray = as') (hlen : ∀ sig, parseMethodDescriptor y.desc = some sig → argsL.length = sig.parameters.length) {S0 : List Value} (hst : S0 = argsL.reverse ++ .ref b :: S) (hW : (S.map fun v => v.category).sum ≤ W) (hc : cells + ck ≤ R.cells) (hl : slots + sk ≤ R.slots) (hI : ∀ v h' L, Q v h' L → I s' h') (hd : decode bytes pc = .ok (.invokevirtual index, 3)) (hp : pc + 3 = pc')
    (hr : ∀ v T' h' L, Q v h' L → Wk p l e R m args below meth c own bytes maxL Z I s' T' (locs ++ L) (cells + ck) (slots + sk) h' → Go p e below G (T'.setTop (mkF m pc' Ls (v.toList ++ S)))) : Go p e below G (T.setTop (mkF m pc Ls S0)) := by
  subst hp hst
  obtain ⟨cq, kq, qa, qb, qc⟩ := isOf D.wm D.eq E
  obtain ⟨v, _, ⟨T', L', k', n'⟩, -, X', ⟨L, hQ, l', y', z'⟩, st⟩ := D.st.virtualBack D.ex (y := y) (z := z) D.ow (mvT D.wm w1) (mvT D.wm w2) hnf (mvT D.wm w4) (mvT D.wm w5) hy K qa qc (g := mkF m pc Ls (argsL.reverse ++ .ref b :: S)) rfl (by rw [D.ml]; exact hsz) (Steps.refl _) (argsL := argsL) (rest := S) hlen rfl (by simpa using hW) (hb D.cb hd) (fun _ _ => ⟨has, D.eq, hc, hl⟩)
  dsimp only at X' l' y' z' st hQ
  subst l' y' z'
  exact Go.mono (fun t k => st.trans k) (hr v T' _ L hQ (D.mk' X' rfl (hI v _ L hQ)))
theorem g_callN (D : Wk p l e R m args below meth c own bytes maxL Z I s' T locs cells slots h) (pc' : Nat) {index : Nat} {y : MethodName} {bz : ByteArray} {mL : Nat} {W ck sk : Nat} {as' : Array Value} {Q : Option Value → Heap → List Loc → Prop} (hy1 : y.name = "<init>") (w1 : (Cond.methodLink own index y).before a0 Z = true) (w2 : (Cond.instanceMethod y).before a0 Z = true) (w3 : (Cond.code y bz mL none).before a0 Z = true) (hy : y.cls ≠ "java/lang/invoke/MethodHandle" ∧ y.cls ≠ "java/lang/invoke/VarHandle")
    (K : Back l R p e below s' args y 3 W (fun A a => a = as' ∧ A.U.heap = h ∧ A.cells + ck ≤ R.cells ∧ A.slots + sk ≤ R.slots) (fun A _ v B => ∃ L, Q v B.U.heap L ∧ B.locs = A.locs ++ L ∧ B.cells = A.cells + ck ∧ B.slots = A.slots + sk)) {b : Addr} (hsz : Ls.size = maxL) (argsL : List Value) (has : (.ref b :: argsL).toArray = as') (hlen : ∀ sig, parseMethodDescriptor y.desc = some sig → argsL.length = sig.parameters.length) {S0 : List Value} (hst : S0 = argsL.reverse ++ .ref b :: S) (hW : (S.map fun v => v.category).sum ≤ W) (hc : cells + ck ≤ R.cells) (hl : slots + sk ≤ R.slots) (hI : ∀ v h' L, Q v h' L → I s' h') (hd : decode bytes pc = .ok (.invokespecial index, 3)) (hp : pc + 3 = pc')
    (hr : ∀ v T' h' L, Q v h' L → Wk p l e R m args below meth c own bytes maxL Z I s' T' (locs ++ L) (cells + ck) (slots + sk) h' → Go p e below G (T'.setTop (mkF m pc' Ls (v.toList ++ S)))) : Go p e below G (T.setTop (mkF m pc Ls S0)) := by
  subst hp hst
  obtain ⟨v, _, ⟨T', L', k', n'⟩, -, X', ⟨L, hQ, l', y', z'⟩, st⟩ := D.st.specialBack D.ex (y := y) hy1 D.ow (mvT D.wm w1) (mvT D.wm w2) (mvT D.wm w3) hy K (g := mkF m pc Ls (argsL.reverse ++ .ref b :: S)) rfl (by rw [D.ml]; exact hsz) (Steps.refl _) (a := b) (argsL := argsL) (rest := S) hlen rfl (by simpa using hW) (hb D.cb hd) (fun _ _ => ⟨has, D.eq, hc, hl⟩)
  dsimp only at X' l' y' z' st hQ
  subst l' y' z'
  exact Go.mono (fun t k => st.trans k) (hr v T' _ L hQ (D.mk' X' rfl (hI v _ L hQ)))
theorem g_callNN (D : Wk p l e R m args below meth c own bytes maxL Z I s' T locs cells slots h) (pc' : Nat) {index : Nat} {host : String} {y : MethodName} {bz : ByteArray} {mL : Nat} {W ck sk : Nat} {as' : Array Value} {Q : Option Value → Heap → List Loc → Prop} (hy1 : y.name = "<init>") (w1 : (Cond.methodLinkNest own index y host).before a0 Z = true) (w2 : (Cond.instanceMethod y).before a0 Z = true) (w3 : (Cond.code y bz mL none).before a0 Z = true) (hy : y.cls ≠ "java/lang/invoke/MethodHandle" ∧ y.cls ≠ "java/lang/invoke/VarHandle")
    (K : Back l R p e below s' args y 3 W (fun A a => a = as' ∧ A.U.heap = h ∧ A.cells + ck ≤ R.cells ∧ A.slots + sk ≤ R.slots) (fun A _ v B => ∃ L, Q v B.U.heap L ∧ B.locs = A.locs ++ L ∧ B.cells = A.cells + ck ∧ B.slots = A.slots + sk)) {b : Addr} (hsz : Ls.size = maxL) (argsL : List Value) (has : (.ref b :: argsL).toArray = as') (hlen : ∀ sig, parseMethodDescriptor y.desc = some sig → argsL.length = sig.parameters.length) {S0 : List Value} (hst : S0 = argsL.reverse ++ .ref b :: S) (hW : (S.map fun v => v.category).sum ≤ W) (hc : cells + ck ≤ R.cells) (hl : slots + sk ≤ R.slots) (hI : ∀ v h' L, Q v h' L → I s' h') (hd : decode bytes pc = .ok (.invokespecial index, 3)) (hp : pc + 3 = pc')
    (hr : ∀ v T' h' L, Q v h' L → Wk p l e R m args below meth c own bytes maxL Z I s' T' (locs ++ L) (cells + ck) (slots + sk) h' → Go p e below G (T'.setTop (mkF m pc' Ls (v.toList ++ S)))) : Go p e below G (T.setTop (mkF m pc Ls S0)) := by
  subst hp hst
  obtain ⟨v, _, ⟨T', L', k', n'⟩, -, X', ⟨L, hQ, l', y', z'⟩, st⟩ := D.st.specialBackNest D.ex (y := y) hy1 D.ow (Cond.methodLinkNest_wide D.wm w1 :) (mvT D.wm w2) (mvT D.wm w3) hy K (g := mkF m pc Ls (argsL.reverse ++ .ref b :: S)) rfl (by rw [D.ml]; exact hsz) (Steps.refl _) (a := b) (argsL := argsL) (rest := S) hlen rfl (by simpa using hW) (hb D.cb hd) (fun _ _ => ⟨has, D.eq, hc, hl⟩)
  dsimp only at X' l' y' z' st hQ
  subst l' y' z'
  exact Go.mono (fun t k => st.trans k) (hr v T' _ L hQ (D.mk' X' rfl (hI v _ L hQ)))
theorem g_newPE (D : Wk p l e R m args below meth c own bytes maxL Z I s' T locs cells slots h) (pc' : Nat) {aty : ArrayType} (w : (Cond.arrayClass (newarray.typeOf aty)).before a0 Z = true) {n : Int32} (hd : decode bytes pc = .ok (.newarray aty, 2)) (hn : ¬ n < 0) {cap : Nat} (hcap : n.toNatClampNeg ≤ cap) (hb' : cap * 8 ≤ 536870912) (hc : cells + 1 ≤ R.cells) (hl : slots + cap ≤ R.slots) {ad : String} (had : "[" ++ (newarray.typeOf aty).toString = ad) (hI : ∀ h', Ext h h' → I s' h') (hp : pc + 2 = pc')
    (hr : ∀ T' h' a k, a = h.size → Ext h h' → Arv Z h' a k (newarray.typeOf aty) n [] (defaultValue (newarray.typeOf aty)) → Exa Z h' a ad → Wk p l e R m args below meth c own bytes maxL Z I s' T' locs (cells + 1) (slots + cap) h' → Go p e below G (T'.setTop (mkF m pc' Ls (.ref a :: S)))) : Go p e below G (T.setTop (mkF m pc Ls (.int n :: S))) := by
  subst hp
  obtain ⟨T', h', k, X', e', E', A', B', st⟩ := newPE D.st D.ex D.wm w D.eq (g := mkF m pc Ls (.int n :: S)) rfl (hb D.cb hd) rfl hn hcap hb' hc hl had
  exact Go.mono st (hr T' h' _ k rfl E' (Arv.new A' hn) B' (D.mk' X' e' (hI h' E')))
theorem g_cpA (D : Wk p l e R m args below meth c own bytes maxL Z I s' T locs cells slots h) (pc' : Nat) {index : Nat} (w1 : (Cond.methodLink own index Jvm.Stand.acN).before a0 Z = true) (w2 : (Cond.native Jvm.Stand.acN).before a0 Z = true) (w3 : (Cond.static Jvm.Stand.acN).before a0 Z = true) (w4 : (Cond.initialized "java/lang/System").before a0 Z = true) {a b : Addr} {k k' : ClassId} {ty : FieldType} {z z' sp dp nn : Int32} {vs vd : List Value} {dv dd : Value} (us : List Value) (A : Arv Z h a k ty z vs dv) (B : Arv Z h b k' ty z' vd dd) (hty : refKind ty = false)
    (h1 : ¬ sp < 0) (h2 : ¬ dp < 0) (h3 : ¬ nn < 0) (h4 : sp.toNatClampNeg + nn.toNatClampNeg ≤ z.toNatClampNeg) (h5 : dp.toNatClampNeg + nn.toNatClampNeg ≤ z'.toNatClampNeg) (hus : us = (List.range nn.toNatClampNeg).map fun i => vs.getD (sp.toNatClampNeg + i) dv) (hl : dp.toNatClampNeg + nn.toNatClampNeg ≤ vd.length) {n0 : Nat} (N : Fr n0 locs) (ge : n0 ≤ b) (hsz : Ls.size = maxL) (hd : decode bytes pc = .ok (.invokestatic index, 3)) (hf : 1 ≤ R.frames) {W : Nat} (hW : (S.map fun v => v.category).sum ≤ W) (hlo : W + (nativeFrameWords "java/lang/System" "arraycopy" 5 + 11) ≤ R.locals) (hI : ∀ h', Keep h h' [b] → I s' h') (hp : pc + 3 = pc')
    (hr : ∀ T' h' L, Fr n0 L → Keep h h' [b] → Arv Z h' b k' ty z' (vd.take dp.toNatClampNeg ++ us ++ vd.drop (dp.toNatClampNeg + nn.toNatClampNeg)) dd → Wk p l e R m args below meth c own bytes maxL Z I s' T' L cells slots h' → Go p e below G (T'.setTop (mkF m pc' Ls S))) : Go p e below G (T.setTop (mkF m pc Ls (.int nn :: .int dp :: .ref b :: .int sp :: .ref a :: S))) := by
  subst hp
  obtain ⟨T', h', L, X', e', N', K', A', st⟩ := cpA D.st D.ex D.wm D.ow w1 w2 w3 w4 D.eq A B (Or.inl ⟨rfl, hty⟩) h1 h2 h3 h4 h5 hus hl N ge (g := mkF m pc Ls (.int nn :: .int dp :: .ref b :: .int sp :: .ref a :: S)) rfl (by rw [D.ml]; exact hsz) rfl (hb D.cb hd) hf (by simpa using hW) hlo
  exact Go.mono st (hr T' h' L N' K' A' (D.mk' X' e' (hI h' K')))
theorem g_callSp (D : Wk p l e R m args below meth c own bytes maxL Z I s' T locs cells slots h) (pc' : Nat) {index : Nat} {y : MethodName} {bz : ByteArray} {mL : Nat} {ret' : Option FieldType} {W ck sk : Nat} {as' : Array Value} {Pv : Option Value → Prop} (w1 : (Cond.methodLink own index y).before a0 Z = true) (w2 : (Cond.static y).before a0 Z = true) (w3 : (Cond.initialized y.cls).before a0 Z = true) (w4 : (Cond.code y bz mL ret').before a0 Z = true) (hy : y.cls ≠ "java/lang/invoke/MethodHandle" ∧ y.cls ≠ "java/lang/invoke/VarHandle")
    (K : Back l R p e below s' args y 3 W (fun A a => a = as' ∧ A.U.heap = h ∧ A.cells + ck ≤ R.cells ∧ A.slots + sk ≤ R.slots) (fun A _ v B => ∃ L, (Pv v ∧ L = [] ∧ B.U.heap = h) ∧ B.locs = A.locs ++ L ∧ B.cells = A.cells + ck ∧ B.slots = A.slots + sk)) (hsz : Ls.size = maxL) (argsL : List Value) (has : argsL.toArray = as') (hlen : ∀ sig, parseMethodDescriptor y.desc = some sig → argsL.length = sig.parameters.length) {S0 : List Value} (hst : S0 = argsL.reverse ++ S) (hW : (S.map fun v => v.category).sum ≤ W) (hc : cells + ck ≤ R.cells) (hl : slots + sk ≤ R.slots) (hd : decode bytes pc = .ok (.invokestatic index, 3)) (hp : pc + 3 = pc')
    (hr : ∀ v T', Pv v → Wk p l e R m args below meth c own bytes maxL Z I s' T' locs (cells + ck) (slots + sk) h → Go p e below G (T'.setTop (mkF m pc' Ls (v.toList ++ S)))) : Go p e below G (T.setTop (mkF m pc Ls S0)) := by
  refine g_callS D pc' (Q := fun v h' L => Pv v ∧ L = [] ∧ h' = h) w1 w2 w3 w4 hy K hsz argsL has hlen hst hW hc hl (fun v h' L q => q.2.2 ▸ D.iv) hd hp ?_
  intro v T' h' L q D'
  obtain ⟨q1, q2, q3⟩ := q
  subst q2 q3
  rw [List.append_nil] at D'
  exact hr v T' q1 D'
theorem g_callVp (D : Wk p l e R m args below meth c own bytes maxL Z I s' T locs cells slots h) (pc' : Nat) {index : Nat} {y z : MethodName} {C : String} {W ck sk : Nat} {as' : Array Value} {Pv : Option Value → Prop} (w1 : (Cond.methodLink own index y).before a0 Z = true) (w2 : (Cond.declares y).before a0 Z = true) (hnf : NotFace s' y) (w4 : (Cond.selects C y z).before a0 Z = true) (w5 : (Cond.instanceMethod z).before a0 Z = true) (hy : y.cls ≠ "java/lang/invoke/MethodHandle" ∧ y.cls ≠ "java/lang/invoke/VarHandle")
    (K : Back l R p e below s' args z 3 W (fun A a => a = as' ∧ A.U.heap = h ∧ A.cells + ck ≤ R.cells ∧ A.slots + sk ≤ R.slots) (fun A _ v B => ∃ L, (Pv v ∧ L = [] ∧ B.U.heap = h) ∧ B.locs = A.locs ++ L ∧ B.cells = A.cells + ck ∧ B.slots = A.slots + sk)) {b : Addr} (E : Exa Z h b C) (hsz : Ls.size = maxL) (argsL : List Value) (has : (.ref b :: argsL).toArray = as') (hlen : ∀ sig, parseMethodDescriptor y.desc = some sig → argsL.length = sig.parameters.length) {S0 : List Value} (hst : S0 = argsL.reverse ++ .ref b :: S) (hW : (S.map fun v => v.category).sum ≤ W) (hc : cells + ck ≤ R.cells) (hl : slots + sk ≤ R.slots) (hd : decode bytes pc = .ok (.invokevirtual index, 3)) (hp : pc + 3 = pc')
    (hr : ∀ v T', Pv v → Wk p l e R m args below meth c own bytes maxL Z I s' T' locs (cells + ck) (slots + sk) h → Go p e below G (T'.setTop (mkF m pc' Ls (v.toList ++ S)))) : Go p e below G (T.setTop (mkF m pc Ls S0)) := by
  refine g_callV D pc' (Q := fun v h' L => Pv v ∧ L = [] ∧ h' = h) w1 w2 hnf w4 w5 hy K E hsz argsL has hlen hst hW hc hl (fun v h' L q => q.2.2 ▸ D.iv) hd hp ?_
  intro v T' h' L q D'
  obtain ⟨q1, q2, q3⟩ := q
  subst q2 q3
  rw [List.append_nil] at D'
  exact hr v T' q1 D'
theorem g_callIp (D : Wk p l e R m args below meth c own bytes maxL Z I s' T locs cells slots h) (pc' : Nat) {index count : Nat} {y z : MethodName} {C : String} {W ck sk : Nat} {as' : Array Value} {Pv : Option Value → Prop} (w1 : (Cond.methodLink own index y).before a0 Z = true) (w2 : (Cond.declares y).before a0 Z = true) (w3 : (Cond.interfaceMethod y.cls y.cls y.name y.desc).before a0 Z = true) (w4 : (Cond.selects C y z).before a0 Z = true) (w5 : (Cond.instanceMethod z).before a0 Z = true) (w6 : (Cond.publicMethod z).before a0 Z = true) (w7 : (Cond.unhidden C y.name y.desc).before a0 Z = true) (w8 : (Cond.castable C y.cls).before a0 Z = true) (hy : y.cls ≠ "java/lang/invoke/MethodHandle" ∧ y.cls ≠ "java/lang/invoke/VarHandle")
    (K : Back l R p e below s' args z 5 W (fun A a => a = as' ∧ A.U.heap = h ∧ A.cells + ck ≤ R.cells ∧ A.slots + sk ≤ R.slots) (fun A _ v B => ∃ L, (Pv v ∧ L = [] ∧ B.U.heap = h) ∧ B.locs = A.locs ++ L ∧ B.cells = A.cells + ck ∧ B.slots = A.slots + sk)) {b : Addr} (E : Exa Z h b C) (hsz : Ls.size = maxL) (argsL : List Value) (has : (.ref b :: argsL).toArray = as') (hlen : ∀ sig, parseMethodDescriptor y.desc = some sig → argsL.length = sig.parameters.length) {S0 : List Value} (hst : S0 = argsL.reverse ++ .ref b :: S) (hW : (S.map fun v => v.category).sum ≤ W) (hc : cells + ck ≤ R.cells) (hl : slots + sk ≤ R.slots) (hd : decode bytes pc = .ok (.invokeinterface index count, 5)) (hp : pc + 5 = pc')
    (hr : ∀ v T', Pv v → Wk p l e R m args below meth c own bytes maxL Z I s' T' locs (cells + ck) (slots + sk) h → Go p e below G (T'.setTop (mkF m pc' Ls (v.toList ++ S)))) : Go p e below G (T.setTop (mkF m pc Ls S0)) := by
  subst hp hst
  obtain ⟨cq, kq, qa, qb, qc⟩ := isOf D.wm D.eq E
  obtain ⟨v, _, ⟨T', L', k', n'⟩, -, X', ⟨L, hQ, l', y', z'⟩, st⟩ := D.st.interfaceBack D.ex (xi := y) (y := z) D.ow (mvT D.wm w1) (mvT D.wm w2) (mvT D.wm w3 (by simp [Cond.onTables, Cond.keepsFace, Cond.keeps, Cond.steady, Cond.faceAtom]; exact hy)) (mvT D.wm w4) (mvT D.wm w5) (mvT D.wm w6) (mvT D.wm w7) (mvT D.wm w8) hy K qa qb qc (g := mkF m pc Ls (argsL.reverse ++ .ref b :: S)) rfl (by rw [D.ml]; exact hsz) (Steps.refl _) (argsL := argsL) (rest := S) hlen rfl (by simpa using hW) (hb D.cb hd) (fun _ _ => ⟨has, D.eq, hc, hl⟩)
  dsimp only at X' l' y' z' st hQ
  subst l' y' z'
  obtain ⟨q1, q2, q3⟩ := hQ
  subst q2
  rw [List.append_nil] at X'
  exact Go.mono (fun t k => st.trans k) (hr v T' q1 (D.mk' X' q3 D.iv))
theorem clt_t {x y : Int64} (h : x < y) : XT.cmpL x y < 0 := by have := Int64.lt_iff_toInt_lt.mp h; unfold XT.cmpL; split <;> (try split) <;> simp_all [Int64.lt_iff_toInt_lt, ← Int64.toInt_inj] <;> omega
theorem clt_f {x y : Int64} (h : ¬ x < y) : ¬ XT.cmpL x y < 0 := by unfold XT.cmpL; split <;> (try split) <;> simp_all [Int64.lt_iff_toInt_lt, ← Int64.toInt_inj] <;> omega
theorem cgt_t {x y : Int64} (h : y < x) : 0 < XT.cmpL x y := by unfold XT.cmpL; split <;> (try split) <;> simp_all [Int64.lt_iff_toInt_lt, ← Int64.toInt_inj] <;> omega
theorem cgt_f {x y : Int64} (h : ¬ y < x) : ¬ 0 < XT.cmpL x y := by unfold XT.cmpL; split <;> (try split) <;> simp_all [Int64.lt_iff_toInt_lt, ← Int64.toInt_inj] <;> omega
theorem ceq_t {x y : Int64} (h : x = y) : XT.cmpL x y = 0 := by unfold XT.cmpL; split <;> (try split) <;> simp_all [Int64.lt_iff_toInt_lt, ← Int64.toInt_inj] <;> omega
theorem ceq_f {x y : Int64} (h : ¬ x = y) : ¬ XT.cmpL x y = 0 := by unfold XT.cmpL; split <;> (try split) <;> simp_all [Int64.lt_iff_toInt_lt, ← Int64.toInt_inj] <;> omega
/-- the invariant of a walk that loads no literal -/
def NI : State → Heap → Prop := fun _ _ => True
/-- what a walk that loads no literal ends in -/
def NG (s : State) (Q : Option Value → Heap → List Loc → Prop) (ck sk : Nat) : Outcome → State → Prop := fun o U' => ∃ v L, o = .returned v ∧ Q v U'.heap L ∧ FrameEnd s o U' L ck sk
variable {Q : Option Value → Heap → List Loc → Prop} {ck sk : Nat}
theorem r_gen (D : Wk p l e R m args below meth c own bytes maxL Z I s' T locs cells slots h) {v : Option Value} (hv : meth.sig.returnType = none → v = none) (hlk : meth.locks = false) (hst : ∀ fs, (∀ (f : JFrame) (acts : List Action), f.method = m → f.locked = none → f.entered = [] → (doReturn e (T.setTop f) acts v).1 = T.setFrames fs) → Steps p.tables e below (T.setTop (mkF m pc Ls S)) (T.setFrames fs)) (hQ : Q v h locs) (hc : cells ≤ ck) (hs : slots ≤ sk) : Go p e below (NG s' Q ck sk) (T.setTop (mkF m pc Ls S)) := by
  obtain ⟨fs, hr, hrun, hended, hW, hsame⟩ := D.st.leave (v := v) hv hlk
  refine ⟨_, _, hst fs hr, hrun, hended, _, _, rfl, ?_, ⟨_, rfl⟩, hW, hsame.mono hc hs⟩
  show Q v T.heap locs
  rw [D.eq]; exact hQ
theorem r_I (D : Wk p l e R m args below meth c own bytes maxL Z I s' T locs cells slots h) {z : Int32} (hret : meth.sig.returnType = some .int) (hlk : meth.locks = false) (hd : decode bytes pc = .ok (.ireturn, 1)) (hQ : Q (some (.int z)) h locs) (hc : cells ≤ ck) (hs : slots ≤ sk) : Go p e below (NG s' Q ck sk) (T.setTop (mkF m pc Ls (.int z :: S))) :=
  r_gen D (fun h => by rw [hret] at h; cases h) hlk (fun fs hr => retOut D.st D.ex hret rfl (Or.inl ⟨rfl, Or.inl rfl, _, rfl⟩) (hb D.cb hd) hr) hQ hc hs
theorem r_N (D : Wk p l e R m args below meth c own bytes maxL Z I s' T locs cells slots h) {t : FieldType} {z : Int32} (hret : meth.sig.returnType = some t) (ht : t = .boolean ∨ t = .byte ∨ t = .char ∨ t = .short) (hlk : meth.locks = false) (hd : decode bytes pc = .ok (.ireturn, 1)) (hQ : Q (some (.int (nar t z))) h locs) (hc : cells ≤ ck) (hs : slots ≤ sk) : Go p e below (NG s' Q ck sk) (T.setTop (mkF m pc Ls (.int z :: S))) :=
  r_gen D (fun h => by rw [hret] at h; cases h) hlk (fun fs hr => retN D.st D.ex hret ht (hb D.cb hd) hr) hQ hc hs
theorem r_A (D : Wk p l e R m args below meth c own bytes maxL Z I s' T locs cells slots h) {t : FieldType} {w : Value} (hret : meth.sig.returnType = some t) (ht : t.isReference = true) (hw : w.isRef = true) (hlk : meth.locks = false) (hd : decode bytes pc = .ok (.areturn, 1)) (hQ : Q (some w) h locs) (hc : cells ≤ ck) (hs : slots ≤ sk) : Go p e below (NG s' Q ck sk) (T.setTop (mkF m pc Ls (w :: S))) :=
  r_gen D (fun h => by rw [hret] at h; cases h) hlk (fun fs hr => retOut D.st D.ex hret (by cases t <;> first | (cases ht; done) | rfl) (Or.inr (Or.inr (Or.inr (Or.inr ⟨rfl, ht, hw⟩)))) (hb D.cb hd) hr) hQ hc hs
theorem r_J (D : Wk p l e R m args below meth c own bytes maxL Z I s' T locs cells slots h) {z : Int64} (hret : meth.sig.returnType = some .long) (hlk : meth.locks = false) (hd : decode bytes pc = .ok (.lreturn, 1)) (hQ : Q (some (.long z)) h locs) (hc : cells ≤ ck) (hs : slots ≤ sk) : Go p e below (NG s' Q ck sk) (T.setTop (mkF m pc Ls (.long z :: S))) :=
  r_gen D (fun h => by rw [hret] at h; cases h) hlk (fun fs hr => retOut D.st D.ex hret rfl (Or.inr (Or.inl ⟨rfl, rfl, _, rfl⟩)) (hb D.cb hd) hr) hQ hc hs
theorem r_V (D : Wk p l e R m args below meth c own bytes maxL Z I s' T locs cells slots h) (hret : meth.sig.returnType = none) (hlk : meth.locks = false) (hd : decode bytes pc = .ok (.return_, 1)) (hQ : Q none h locs) (hc : cells ≤ ck) (hs : slots ≤ sk) : Go p e below (NG s' Q ck sk) (T.setTop (mkF m pc Ls [])) :=
  r_gen D (fun _ => rfl) hlk (fun fs hr => D.st.returnOut D.ex hret (hb D.cb hd) hr) hQ hc hs
end Walk
/-- a contract: called with these arguments at this heap it returns, and Q tells what it leaves -/
abbrev Con (l : Launch) (y : MethodName) (bytes : ByteArray) (maxL : Nat) (ret : Option FieldType) (ws : List Jvm.Cond) (rm : Room) (Z : State) (as' : Array Value) (h0 : Heap) (Q : Option Value → Heap → List Loc → Prop) (ck sk : Nat) : Prop :=
  MetFree l y (head1 (Jvm.Cond.code y bytes maxL ret :: ws) rm) (fun a U => a = as' ∧ Z.Warmed39 U.vm ∧ U.heap = h0) (fun _ _ _ _ _ => True) (fun _ U o U' => ∃ v L, o = .returned v ∧ Q v U'.heap L ∧ FrameEnd U o U' L ck sk)
theorem enter {l : Launch} {y : MethodName} {bytes : ByteArray} {maxL : Nat} {ret : Option FieldType} {ws : List Jvm.Cond} {rm : Room} {Z : State} {as' : Array Value} {h0 : Heap} {Q : Option Value → Heap → List Loc → Prop} {ck sk : Nat} (hpl : plainFor y = true)
    (k : ∀ p e s m below meth c s₁, meth.name = y.name → meth.sig.returnType = ret → meth.locks = false → Wk p l e rm m as' below meth c y.cls bytes maxL Z NI s s₁ [] 0 0 h0 → Go p e below (NG s Q ck sk) (s₁.setTop (entryFrame m as' maxL))) :
    Con l y bytes maxL ret ws rm Z as' h0 Q ck sk := by
  refine MetFree.of_bodySF hpl hisR ?_
  intro p e s m args below meth c s₁ Bd hml0 hP hK
  obtain ⟨rfl, hZ, hh⟩ := hP
  have X0 : Stand p l e rm s m _ below meth c s₁ [] 0 0 := Stand.of_body Bd
  exact k p e s m below meth c s₁ (name_of_methodNamed Bd.named Bd.method).1 Bd.returns Bd.notSynchronized ⟨X0, by rw [← hh, Bd.state]; rfl, hZ, findClass_of_methodNamed Bd.named, Bd.exec, Bd.bytes, hml0, trivial⟩
theorem Con.back {l : Launch} {y : MethodName} {bytes : ByteArray} {maxL : Nat} {ret : Option FieldType} {rm : Room} {Z : State} {as' : Array Value} {h0 : Heap} {Q : Option Value → Heap → List Loc → Prop} (hM : Con l y bytes maxL ret [] rm Z as' h0 Q rm.cells rm.slots) {p : Program} {e : Env} {R : Room} {m : MethodId} {args : Array Value} {below : List Frame} {meth : Method} {c : Code} {own : String} {bz : ByteArray} {mL : Nat} {I : State → Heap → Prop} {s' T : State} {locs : List Loc} {cells slots : Nat} {h : Heap} {a0 : Array Value}
    (D : Wk p l e R m args below meth c own bz mL Z I s' T locs cells slots h) (W : Nat) {len : Nat} (wc : (Cond.code y bytes maxL ret).before a0 Z = true) (wz : (Cond.initialized y.cls).before a0 Z = true) (hf : rm.frames + 1 ≤ R.frames) (hl : W + (maxL + 11) + rm.locals ≤ R.locals) :
    Back l R p e below s' args y len W (fun A a => a = as' ∧ A.U.heap = h0 ∧ A.cells + rm.cells ≤ R.cells ∧ A.slots + rm.slots ≤ R.slots) (fun A _ v B => ∃ L, Q v B.U.heap L ∧ B.locs = A.locs ++ L ∧ B.cells = A.cells + rm.cells ∧ B.slots = A.slots + rm.slots) :=
  backOf hM D.wm wc wz hf hl
theorem eqr_v {args : Array Value} {Z : State} {X F : Term} {idx : List Nat} {y : Addr} (hF : F.eval args Z none idx Z = some (.ref y)) (h : (Cond.eq X F).value args Z none Z idx = some true) : X.eval args Z none idx Z = some (.ref y) := by
  obtain ⟨x, y', e1, e2, k1, k2⟩ := cmp_v (Or.inl h)
  cases hF.symm.trans e2
  have hx : x.isRef = true := k2.2
  have q := gotT (eq_R e1 hF hx rfl) h
  rw [e1, q]
theorem arv_start {Z : State} {args : Array Value} {t : Term} {a : Addr} {ty : FieldType} {n : Int32} {vs : List Value} {dv : Value} (hf : Fit Z) (ev : t.eval args Z none [] Z = some (.ref a)) (ha : (Cond.arrayOf t ty).value args Z none Z [] = some true) (hl : (Cond.eq (.length t) (.int n)).value args Z none Z [] = some true) (hn : ¬ n < 0) (hk : n.toNatClampNeg = vs.length) (H : ∀ cl : Cell, Z.heap[a]? = some cl → HasL cl 0 vs) : ∃ k, Arv Z Z.heap a k ty n vs dv := by
  obtain ⟨cl, A⟩ := Arr.start ev ha
  have q := eqv_i (Term.int_eval (n)) hl
  have q2 : cl.slots.size < 2 ^ 31 ∧ cl.slots.size.toInt32 = n := by
    have q3 := A.fin (Vm.Alike.refl _)
    simp only [Term.eval, ev, q3, Option.bind_eq_bind, Option.bind_some] at q
    split at q
    · rename_i q4; exact ⟨q4, by simpa using q⟩
    · cases q
  exact ⟨_, Arv.start hf A q2.1 q2.2 hn hk (H cl A.1)⟩
theorem w_0 : (Jvm.Cond.methodLink "com/example/pactum/pactum/model/ResourceLoginToStringPinLaw" (22 : Nat) ({ cls := "com/example/pactum/pactum/model/ResourceLoginToStringPinLaw", name := "str", desc := "(ICC)Ljava/lang/String;" } : Jvm.MethodName)) ∈ tables_1 := List.mem_of_getElem? (i := 0) rfl
theorem w_1 : (Jvm.Cond.static ({ cls := "com/example/pactum/pactum/model/ResourceLoginToStringPinLaw", name := "str", desc := "(ICC)Ljava/lang/String;" } : Jvm.MethodName)) ∈ tables_1 := List.mem_of_getElem? (i := 1) rfl
theorem w_2 : (Jvm.Cond.initialized "com/example/pactum/pactum/model/ResourceLoginToStringPinLaw") ∈ tables_1 := List.mem_of_getElem? (i := 2) rfl
theorem w_3 : (Jvm.Cond.code ({ cls := "com/example/pactum/pactum/model/ResourceLoginToStringPinLaw", name := "str", desc := "(ICC)Ljava/lang/String;" } : Jvm.MethodName) method_2_code (3 : Nat) (Option.some (Jvm.ClassFile.FieldType.object "java/lang/String"))) ∈ tables_1 := List.mem_of_getElem? (i := 3) rfl
theorem w_4 : (Jvm.Cond.classLink "com/example/pactum/pactum/model/ResourceLoginToStringPinLaw" (7 : Nat) "java/lang/String") ∈ tables_1 := List.mem_of_getElem? (i := 4) rfl
theorem w_5 : (Jvm.Cond.instantiable "java/lang/String" (4 : Nat)) ∈ tables_1 := List.mem_of_getElem? (i := 5) rfl
theorem w_6 : (Jvm.Cond.initialized "java/lang/String") ∈ tables_1 := List.mem_of_getElem? (i := 6) rfl
theorem w_7 : (Jvm.Cond.arrayClass Jvm.ClassFile.FieldType.char) ∈ tables_1 := List.mem_of_getElem? (i := 7) rfl
theorem w_8 : (Jvm.Cond.methodLink "com/example/pactum/pactum/model/ResourceLoginToStringPinLaw" (9 : Nat) ({ cls := "java/lang/String", name := "<init>", desc := "([C)V" } : Jvm.MethodName)) ∈ tables_1 := List.mem_of_getElem? (i := 8) rfl
theorem w_9 : (Jvm.Cond.instanceMethod ({ cls := "java/lang/String", name := "<init>", desc := "([C)V" } : Jvm.MethodName)) ∈ tables_1 := List.mem_of_getElem? (i := 9) rfl
theorem w_10 : (Jvm.Cond.code ({ cls := "java/lang/String", name := "<init>", desc := "([C)V" } : Jvm.MethodName) jdk_42_method_3_code (2 : Nat) (Option.none : Option Jvm.ClassFile.FieldType)) ∈ tables_1 := List.mem_of_getElem? (i := 10) rfl
theorem w_11 : (Jvm.Cond.methodLink "java/lang/String" (27 : Nat) ({ cls := "java/lang/String", name := "<init>", desc := "([CIILjava/lang/Void;)V" } : Jvm.MethodName)) ∈ tables_1 := List.mem_of_getElem? (i := 11) rfl
theorem w_12 : (Jvm.Cond.instanceMethod ({ cls := "java/lang/String", name := "<init>", desc := "([CIILjava/lang/Void;)V" } : Jvm.MethodName)) ∈ tables_1 := List.mem_of_getElem? (i := 12) rfl
theorem w_14 : (Jvm.Cond.code ({ cls := "java/lang/String", name := "<init>", desc := "([CIILjava/lang/Void;)V" } : Jvm.MethodName) jdk_42_method_149_code (6 : Nat) (Option.none : Option Jvm.ClassFile.FieldType)) ∈ tables_1 := List.mem_of_getElem? (i := 14) rfl
theorem w_15 : (Jvm.Cond.methodLink "java/lang/String" (1 : Nat) ({ cls := "java/lang/Object", name := "<init>", desc := "()V" } : Jvm.MethodName)) ∈ tables_1 := List.mem_of_getElem? (i := 15) rfl
theorem w_16 : (Jvm.Cond.instanceMethod ({ cls := "java/lang/Object", name := "<init>", desc := "()V" } : Jvm.MethodName)) ∈ tables_1 := List.mem_of_getElem? (i := 16) rfl
theorem w_17 : (Jvm.Cond.code ({ cls := "java/lang/Object", name := "<init>", desc := "()V" } : Jvm.MethodName) object_method_1_code (1 : Nat) (Option.none : Option Jvm.ClassFile.FieldType)) ∈ tables_1 := List.mem_of_getElem? (i := 17) rfl
theorem w_18 : (Jvm.Cond.stringLink "java/lang/String" (7 : Nat) "") ∈ tables_1 := List.mem_of_getElem? (i := 18) rfl
theorem w_19 : (Jvm.Cond.arrayClass Jvm.ClassFile.FieldType.byte) ∈ tables_1 := List.mem_of_getElem? (i := 19) rfl
theorem w_20 : (Jvm.Cond.laysFinal "java/lang/String" "java/lang/String" "value" "[B") ∈ tables_1 := List.mem_of_getElem? (i := 20) rfl
theorem w_21 : (Jvm.Cond.laysFinal "java/lang/String" "java/lang/String" "coder" "B") ∈ tables_1 := List.mem_of_getElem? (i := 21) rfl
theorem w_24 : (Jvm.Cond.fieldLink "java/lang/String" (9 : Nat) "java/lang/String" "value" "[B") ∈ tables_1 := List.mem_of_getElem? (i := 24) rfl
theorem w_25 : (Jvm.Cond.fieldLink "java/lang/String" (15 : Nat) "java/lang/String" "coder" "B") ∈ tables_1 := List.mem_of_getElem? (i := 25) rfl
theorem w_26 : (Jvm.Cond.fieldLink "java/lang/String" (38 : Nat) "java/lang/String" "COMPACT_STRINGS" "Z") ∈ tables_1 := List.mem_of_getElem? (i := 26) rfl
theorem w_37 : (Jvm.Cond.classLink "com/example/pactum/pactum/model/ResourceLoginToStringPinLaw" (26 : Nat) "com/example/pactum/pactum/model/ResourceLogin") ∈ tables_1 := List.mem_of_getElem? (i := 37) rfl
theorem w_38 : (Jvm.Cond.instantiable "com/example/pactum/pactum/model/ResourceLogin" (2 : Nat)) ∈ tables_1 := List.mem_of_getElem? (i := 38) rfl
theorem w_39 : (Jvm.Cond.initialized "com/example/pactum/pactum/model/ResourceLogin") ∈ tables_1 := List.mem_of_getElem? (i := 39) rfl
theorem w_40 : (Jvm.Cond.methodLink "com/example/pactum/pactum/model/ResourceLoginToStringPinLaw" (28 : Nat) ({ cls := "com/example/pactum/pactum/model/ResourceLogin", name := "<init>", desc := "(Ljava/lang/String;Ljava/lang/String;)V" } : Jvm.MethodName)) ∈ tables_1 := List.mem_of_getElem? (i := 40) rfl
theorem w_41 : (Jvm.Cond.instanceMethod ({ cls := "com/example/pactum/pactum/model/ResourceLogin", name := "<init>", desc := "(Ljava/lang/String;Ljava/lang/String;)V" } : Jvm.MethodName)) ∈ tables_1 := List.mem_of_getElem? (i := 41) rfl
theorem w_42 : (Jvm.Cond.code ({ cls := "com/example/pactum/pactum/model/ResourceLogin", name := "<init>", desc := "(Ljava/lang/String;Ljava/lang/String;)V" } : Jvm.MethodName) prog_9_method_1_code (3 : Nat) (Option.none : Option Jvm.ClassFile.FieldType)) ∈ tables_1 := List.mem_of_getElem? (i := 42) rfl
theorem w_43 : (Jvm.Cond.methodLink "com/example/pactum/pactum/model/ResourceLogin" (1 : Nat) ({ cls := "java/lang/Record", name := "<init>", desc := "()V" } : Jvm.MethodName)) ∈ tables_1 := List.mem_of_getElem? (i := 43) rfl
theorem w_44 : (Jvm.Cond.instanceMethod ({ cls := "java/lang/Record", name := "<init>", desc := "()V" } : Jvm.MethodName)) ∈ tables_1 := List.mem_of_getElem? (i := 44) rfl
theorem w_46 : (Jvm.Cond.initialized "java/lang/Record") ∈ tables_1 := List.mem_of_getElem? (i := 46) rfl
theorem w_47 : (Jvm.Cond.code ({ cls := "java/lang/Record", name := "<init>", desc := "()V" } : Jvm.MethodName) jdk_30_method_1_code (1 : Nat) (Option.none : Option Jvm.ClassFile.FieldType)) ∈ tables_1 := List.mem_of_getElem? (i := 47) rfl
theorem w_48 : (Jvm.Cond.methodLink "java/lang/Record" (1 : Nat) ({ cls := "java/lang/Object", name := "<init>", desc := "()V" } : Jvm.MethodName)) ∈ tables_1 := List.mem_of_getElem? (i := 48) rfl
theorem w_49 : (Jvm.Cond.fieldLink "com/example/pactum/pactum/model/ResourceLogin" (7 : Nat) "com/example/pactum/pactum/model/ResourceLogin" "resource" "Ljava/lang/String;") ∈ tables_1 := List.mem_of_getElem? (i := 49) rfl
theorem w_50 : (Jvm.Cond.laysFinal "com/example/pactum/pactum/model/ResourceLogin" "com/example/pactum/pactum/model/ResourceLogin" "resource" "Ljava/lang/String;") ∈ tables_1 := List.mem_of_getElem? (i := 50) rfl
theorem w_51 : (Jvm.Cond.fieldLink "com/example/pactum/pactum/model/ResourceLogin" (13 : Nat) "com/example/pactum/pactum/model/ResourceLogin" "user" "Ljava/lang/String;") ∈ tables_1 := List.mem_of_getElem? (i := 51) rfl
theorem w_52 : (Jvm.Cond.laysFinal "com/example/pactum/pactum/model/ResourceLogin" "com/example/pactum/pactum/model/ResourceLogin" "user" "Ljava/lang/String;") ∈ tables_1 := List.mem_of_getElem? (i := 52) rfl
theorem w_53 : (Jvm.Cond.methodLink "com/example/pactum/pactum/model/ResourceLoginToStringPinLaw" (31 : Nat) ({ cls := "com/example/pactum/pactum/model/ResourceLogin", name := "toString", desc := "()Ljava/lang/String;" } : Jvm.MethodName)) ∈ tables_1 := List.mem_of_getElem? (i := 53) rfl
theorem w_54 : (Jvm.Cond.declares ({ cls := "com/example/pactum/pactum/model/ResourceLogin", name := "toString", desc := "()Ljava/lang/String;" } : Jvm.MethodName)) ∈ tables_1 := List.mem_of_getElem? (i := 54) rfl
theorem w_55 : (Jvm.Cond.instanceMethod ({ cls := "com/example/pactum/pactum/model/ResourceLogin", name := "toString", desc := "()Ljava/lang/String;" } : Jvm.MethodName)) ∈ tables_1 := List.mem_of_getElem? (i := 55) rfl
theorem w_56 : (Jvm.Cond.selects "com/example/pactum/pactum/model/ResourceLogin" ({ cls := "com/example/pactum/pactum/model/ResourceLogin", name := "toString", desc := "()Ljava/lang/String;" } : Jvm.MethodName) ({ cls := "com/example/pactum/pactum/model/ResourceLogin", name := "toString", desc := "()Ljava/lang/String;" } : Jvm.MethodName)) ∈ tables_1 := List.mem_of_getElem? (i := 56) rfl
theorem w_57 : (Jvm.Cond.code ({ cls := "com/example/pactum/pactum/model/ResourceLogin", name := "toString", desc := "()Ljava/lang/String;" } : Jvm.MethodName) prog_9_method_2_code (1 : Nat) (Option.some (Jvm.ClassFile.FieldType.object "java/lang/String"))) ∈ tables_1 := List.mem_of_getElem? (i := 57) rfl
theorem w_58 : (Jvm.Cond.classLink "com/example/pactum/pactum/model/ResourceLogin" (16 : Nat) "java/lang/StringBuilder") ∈ tables_1 := List.mem_of_getElem? (i := 58) rfl
theorem w_59 : (Jvm.Cond.instantiable "java/lang/StringBuilder" (4 : Nat)) ∈ tables_1 := List.mem_of_getElem? (i := 59) rfl
theorem w_60 : (Jvm.Cond.initialized "java/lang/StringBuilder") ∈ tables_1 := List.mem_of_getElem? (i := 60) rfl
theorem w_61 : (Jvm.Cond.methodLink "com/example/pactum/pactum/model/ResourceLogin" (18 : Nat) ({ cls := "java/lang/StringBuilder", name := "<init>", desc := "()V" } : Jvm.MethodName)) ∈ tables_1 := List.mem_of_getElem? (i := 61) rfl
theorem w_62 : (Jvm.Cond.instanceMethod ({ cls := "java/lang/StringBuilder", name := "<init>", desc := "()V" } : Jvm.MethodName)) ∈ tables_1 := List.mem_of_getElem? (i := 62) rfl
theorem w_63 : (Jvm.Cond.code ({ cls := "java/lang/StringBuilder", name := "<init>", desc := "()V" } : Jvm.MethodName) jdk_67_method_1_code (1 : Nat) (Option.none : Option Jvm.ClassFile.FieldType)) ∈ tables_1 := List.mem_of_getElem? (i := 63) rfl
theorem w_64 : (Jvm.Cond.methodLink "java/lang/StringBuilder" (1 : Nat) ({ cls := "java/lang/AbstractStringBuilder", name := "<init>", desc := "(I)V" } : Jvm.MethodName)) ∈ tables_1 := List.mem_of_getElem? (i := 64) rfl
theorem w_65 : (Jvm.Cond.instanceMethod ({ cls := "java/lang/AbstractStringBuilder", name := "<init>", desc := "(I)V" } : Jvm.MethodName)) ∈ tables_1 := List.mem_of_getElem? (i := 65) rfl
theorem w_68 : (Jvm.Cond.initialized "java/lang/AbstractStringBuilder") ∈ tables_1 := List.mem_of_getElem? (i := 68) rfl
theorem w_69 : (Jvm.Cond.code ({ cls := "java/lang/AbstractStringBuilder", name := "<init>", desc := "(I)V" } : Jvm.MethodName) jdk_68_method_2_code (2 : Nat) (Option.none : Option Jvm.ClassFile.FieldType)) ∈ tables_1 := List.mem_of_getElem? (i := 69) rfl
theorem w_70 : (Jvm.Cond.methodLink "java/lang/AbstractStringBuilder" (3 : Nat) ({ cls := "java/lang/Object", name := "<init>", desc := "()V" } : Jvm.MethodName)) ∈ tables_1 := List.mem_of_getElem? (i := 70) rfl
theorem w_71 : (Jvm.Cond.fieldLink "java/lang/AbstractStringBuilder" (18 : Nat) "java/lang/String" "COMPACT_STRINGS" "Z") ∈ tables_1 := List.mem_of_getElem? (i := 71) rfl
theorem w_72 : (Jvm.Cond.fieldLink "java/lang/AbstractStringBuilder" (15 : Nat) "java/lang/AbstractStringBuilder" "value" "[B") ∈ tables_1 := List.mem_of_getElem? (i := 72) rfl
theorem w_73 : (Jvm.Cond.lays "java/lang/StringBuilder" "java/lang/AbstractStringBuilder" "value" "[B") ∈ tables_1 := List.mem_of_getElem? (i := 73) rfl
theorem w_74 : (Jvm.Cond.fieldLink "java/lang/AbstractStringBuilder" (22 : Nat) "java/lang/AbstractStringBuilder" "coder" "B") ∈ tables_1 := List.mem_of_getElem? (i := 74) rfl
theorem w_75 : (Jvm.Cond.lays "java/lang/StringBuilder" "java/lang/AbstractStringBuilder" "coder" "B") ∈ tables_1 := List.mem_of_getElem? (i := 75) rfl
theorem w_76 : (Jvm.Cond.methodLink "com/example/pactum/pactum/model/ResourceLogin" (19 : Nat) ({ cls := "java/lang/StringBuilder", name := "append", desc := "(Ljava/lang/String;)Ljava/lang/StringBuilder;" } : Jvm.MethodName)) ∈ tables_1 := List.mem_of_getElem? (i := 76) rfl
theorem w_77 : (Jvm.Cond.declares ({ cls := "java/lang/StringBuilder", name := "append", desc := "(Ljava/lang/String;)Ljava/lang/StringBuilder;" } : Jvm.MethodName)) ∈ tables_1 := List.mem_of_getElem? (i := 77) rfl
theorem w_78 : (Jvm.Cond.instanceMethod ({ cls := "java/lang/StringBuilder", name := "append", desc := "(Ljava/lang/String;)Ljava/lang/StringBuilder;" } : Jvm.MethodName)) ∈ tables_1 := List.mem_of_getElem? (i := 78) rfl
theorem w_79 : (Jvm.Cond.selects "java/lang/StringBuilder" ({ cls := "java/lang/StringBuilder", name := "append", desc := "(Ljava/lang/String;)Ljava/lang/StringBuilder;" } : Jvm.MethodName) ({ cls := "java/lang/StringBuilder", name := "append", desc := "(Ljava/lang/String;)Ljava/lang/StringBuilder;" } : Jvm.MethodName)) ∈ tables_1 := List.mem_of_getElem? (i := 79) rfl
theorem w_80 : (Jvm.Cond.code ({ cls := "java/lang/StringBuilder", name := "append", desc := "(Ljava/lang/String;)Ljava/lang/StringBuilder;" } : Jvm.MethodName) jdk_67_method_7_code (2 : Nat) (Option.some (Jvm.ClassFile.FieldType.object "java/lang/StringBuilder"))) ∈ tables_1 := List.mem_of_getElem? (i := 80) rfl
theorem w_81 : (Jvm.Cond.methodLink "java/lang/StringBuilder" (29 : Nat) ({ cls := "java/lang/AbstractStringBuilder", name := "append", desc := "(Ljava/lang/String;)Ljava/lang/AbstractStringBuilder;" } : Jvm.MethodName)) ∈ tables_1 := List.mem_of_getElem? (i := 81) rfl
theorem w_82 : (Jvm.Cond.instanceMethod ({ cls := "java/lang/AbstractStringBuilder", name := "append", desc := "(Ljava/lang/String;)Ljava/lang/AbstractStringBuilder;" } : Jvm.MethodName)) ∈ tables_1 := List.mem_of_getElem? (i := 82) rfl
theorem w_83 : (Jvm.Cond.superclass "java/lang/StringBuilder" "java/lang/AbstractStringBuilder") ∈ tables_1 := List.mem_of_getElem? (i := 83) rfl
theorem w_84 : (Jvm.Cond.declares ({ cls := "java/lang/AbstractStringBuilder", name := "append", desc := "(Ljava/lang/String;)Ljava/lang/AbstractStringBuilder;" } : Jvm.MethodName)) ∈ tables_1 := List.mem_of_getElem? (i := 84) rfl
theorem w_85 : (Jvm.Cond.code ({ cls := "java/lang/AbstractStringBuilder", name := "append", desc := "(Ljava/lang/String;)Ljava/lang/AbstractStringBuilder;" } : Jvm.MethodName) jdk_68_method_22_code (3 : Nat) (Option.some (Jvm.ClassFile.FieldType.object "java/lang/AbstractStringBuilder"))) ∈ tables_1 := List.mem_of_getElem? (i := 85) rfl
theorem w_86 : (Jvm.Cond.methodLink "java/lang/AbstractStringBuilder" (32 : Nat) ({ cls := "java/lang/String", name := "length", desc := "()I" } : Jvm.MethodName)) ∈ tables_1 := List.mem_of_getElem? (i := 86) rfl
theorem w_87 : (Jvm.Cond.declares ({ cls := "java/lang/String", name := "length", desc := "()I" } : Jvm.MethodName)) ∈ tables_1 := List.mem_of_getElem? (i := 87) rfl
theorem w_88 : (Jvm.Cond.instanceMethod ({ cls := "java/lang/String", name := "length", desc := "()I" } : Jvm.MethodName)) ∈ tables_1 := List.mem_of_getElem? (i := 88) rfl
theorem w_89 : (Jvm.Cond.selects "java/lang/String" ({ cls := "java/lang/String", name := "length", desc := "()I" } : Jvm.MethodName) ({ cls := "java/lang/String", name := "length", desc := "()I" } : Jvm.MethodName)) ∈ tables_1 := List.mem_of_getElem? (i := 89) rfl
theorem w_91 : (Jvm.Cond.methodLink "java/lang/String" (335 : Nat) ({ cls := "java/lang/String", name := "coder", desc := "()B" } : Jvm.MethodName)) ∈ tables_1 := List.mem_of_getElem? (i := 91) rfl
theorem w_92 : (Jvm.Cond.declares ({ cls := "java/lang/String", name := "coder", desc := "()B" } : Jvm.MethodName)) ∈ tables_1 := List.mem_of_getElem? (i := 92) rfl
theorem w_93 : (Jvm.Cond.instanceMethod ({ cls := "java/lang/String", name := "coder", desc := "()B" } : Jvm.MethodName)) ∈ tables_1 := List.mem_of_getElem? (i := 93) rfl
theorem w_94 : (Jvm.Cond.selects "java/lang/String" ({ cls := "java/lang/String", name := "coder", desc := "()B" } : Jvm.MethodName) ({ cls := "java/lang/String", name := "coder", desc := "()B" } : Jvm.MethodName)) ∈ tables_1 := List.mem_of_getElem? (i := 94) rfl
theorem w_95 : (Jvm.Cond.code ({ cls := "java/lang/String", name := "coder", desc := "()B" } : Jvm.MethodName) jdk_42_method_152_code (1 : Nat) (Option.some Jvm.ClassFile.FieldType.byte)) ∈ tables_1 := List.mem_of_getElem? (i := 95) rfl
theorem w_96 : (Jvm.Cond.fieldLink "java/lang/AbstractStringBuilder" (79 : Nat) "java/lang/AbstractStringBuilder" "count" "I") ∈ tables_1 := List.mem_of_getElem? (i := 96) rfl
theorem w_97 : (Jvm.Cond.lays "java/lang/StringBuilder" "java/lang/AbstractStringBuilder" "count" "I") ∈ tables_1 := List.mem_of_getElem? (i := 97) rfl
theorem w_98 : (Jvm.Cond.methodLink "java/lang/AbstractStringBuilder" (100 : Nat) ({ cls := "java/lang/AbstractStringBuilder", name := "ensureCapacityInternal", desc := "(I)V" } : Jvm.MethodName)) ∈ tables_1 := List.mem_of_getElem? (i := 98) rfl
theorem w_99 : (Jvm.Cond.instanceMethod ({ cls := "java/lang/AbstractStringBuilder", name := "ensureCapacityInternal", desc := "(I)V" } : Jvm.MethodName)) ∈ tables_1 := List.mem_of_getElem? (i := 99) rfl
theorem w_101 : (Jvm.Cond.selects "java/lang/StringBuilder" ({ cls := "java/lang/AbstractStringBuilder", name := "ensureCapacityInternal", desc := "(I)V" } : Jvm.MethodName) ({ cls := "java/lang/AbstractStringBuilder", name := "ensureCapacityInternal", desc := "(I)V" } : Jvm.MethodName)) ∈ tables_1 := List.mem_of_getElem? (i := 101) rfl
theorem w_102 : (Jvm.Cond.code ({ cls := "java/lang/AbstractStringBuilder", name := "ensureCapacityInternal", desc := "(I)V" } : Jvm.MethodName) jdk_68_method_9_code (3 : Nat) (Option.none : Option Jvm.ClassFile.FieldType)) ∈ tables_1 := List.mem_of_getElem? (i := 102) rfl
theorem w_103 : (Jvm.Cond.methodLink "java/lang/AbstractStringBuilder" (208 : Nat) ({ cls := "java/lang/AbstractStringBuilder", name := "putStringAt", desc := "(ILjava/lang/String;)V" } : Jvm.MethodName)) ∈ tables_1 := List.mem_of_getElem? (i := 103) rfl
theorem w_104 : (Jvm.Cond.instanceMethod ({ cls := "java/lang/AbstractStringBuilder", name := "putStringAt", desc := "(ILjava/lang/String;)V" } : Jvm.MethodName)) ∈ tables_1 := List.mem_of_getElem? (i := 104) rfl
theorem w_106 : (Jvm.Cond.selects "java/lang/StringBuilder" ({ cls := "java/lang/AbstractStringBuilder", name := "putStringAt", desc := "(ILjava/lang/String;)V" } : Jvm.MethodName) ({ cls := "java/lang/AbstractStringBuilder", name := "putStringAt", desc := "(ILjava/lang/String;)V" } : Jvm.MethodName)) ∈ tables_1 := List.mem_of_getElem? (i := 106) rfl
theorem w_107 : (Jvm.Cond.code ({ cls := "java/lang/AbstractStringBuilder", name := "putStringAt", desc := "(ILjava/lang/String;)V" } : Jvm.MethodName) jdk_68_method_73_code (3 : Nat) (Option.none : Option Jvm.ClassFile.FieldType)) ∈ tables_1 := List.mem_of_getElem? (i := 107) rfl
theorem w_108 : (Jvm.Cond.methodLink "java/lang/AbstractStringBuilder" (397 : Nat) ({ cls := "java/lang/AbstractStringBuilder", name := "inflateIfNeededFor", desc := "(Ljava/lang/String;)V" } : Jvm.MethodName)) ∈ tables_1 := List.mem_of_getElem? (i := 108) rfl
theorem w_109 : (Jvm.Cond.instanceMethod ({ cls := "java/lang/AbstractStringBuilder", name := "inflateIfNeededFor", desc := "(Ljava/lang/String;)V" } : Jvm.MethodName)) ∈ tables_1 := List.mem_of_getElem? (i := 109) rfl
theorem w_111 : (Jvm.Cond.selects "java/lang/StringBuilder" ({ cls := "java/lang/AbstractStringBuilder", name := "inflateIfNeededFor", desc := "(Ljava/lang/String;)V" } : Jvm.MethodName) ({ cls := "java/lang/AbstractStringBuilder", name := "inflateIfNeededFor", desc := "(Ljava/lang/String;)V" } : Jvm.MethodName)) ∈ tables_1 := List.mem_of_getElem? (i := 111) rfl
theorem w_112 : (Jvm.Cond.code ({ cls := "java/lang/AbstractStringBuilder", name := "inflateIfNeededFor", desc := "(Ljava/lang/String;)V" } : Jvm.MethodName) jdk_68_method_71_code (2 : Nat) (Option.none : Option Jvm.ClassFile.FieldType)) ∈ tables_1 := List.mem_of_getElem? (i := 112) rfl
theorem w_113 : (Jvm.Cond.methodLink "java/lang/AbstractStringBuilder" (40 : Nat) ({ cls := "java/lang/String", name := "coder", desc := "()B" } : Jvm.MethodName)) ∈ tables_1 := List.mem_of_getElem? (i := 113) rfl
theorem w_114 : (Jvm.Cond.methodLink "java/lang/AbstractStringBuilder" (399 : Nat) ({ cls := "java/lang/String", name := "getBytes", desc := "([BIB)V" } : Jvm.MethodName)) ∈ tables_1 := List.mem_of_getElem? (i := 114) rfl
theorem w_115 : (Jvm.Cond.declares ({ cls := "java/lang/String", name := "getBytes", desc := "([BIB)V" } : Jvm.MethodName)) ∈ tables_1 := List.mem_of_getElem? (i := 115) rfl
theorem w_116 : (Jvm.Cond.instanceMethod ({ cls := "java/lang/String", name := "getBytes", desc := "([BIB)V" } : Jvm.MethodName)) ∈ tables_1 := List.mem_of_getElem? (i := 116) rfl
theorem w_117 : (Jvm.Cond.selects "java/lang/String" ({ cls := "java/lang/String", name := "getBytes", desc := "([BIB)V" } : Jvm.MethodName) ({ cls := "java/lang/String", name := "getBytes", desc := "([BIB)V" } : Jvm.MethodName)) ∈ tables_1 := List.mem_of_getElem? (i := 117) rfl
theorem w_118 : (Jvm.Cond.code ({ cls := "java/lang/String", name := "getBytes", desc := "([BIB)V" } : Jvm.MethodName) jdk_42_method_147_code (4 : Nat) (Option.none : Option Jvm.ClassFile.FieldType)) ∈ tables_1 := List.mem_of_getElem? (i := 118) rfl
theorem w_119 : (Jvm.Cond.methodLink "java/lang/String" (212 : Nat) ({ cls := "java/lang/System", name := "arraycopy", desc := "(Ljava/lang/Object;ILjava/lang/Object;II)V" } : Jvm.MethodName)) ∈ tables_1 := List.mem_of_getElem? (i := 119) rfl
theorem w_120 : (Jvm.Cond.static ({ cls := "java/lang/System", name := "arraycopy", desc := "(Ljava/lang/Object;ILjava/lang/Object;II)V" } : Jvm.MethodName)) ∈ tables_1 := List.mem_of_getElem? (i := 120) rfl
theorem w_121 : (Jvm.Cond.initialized "java/lang/System") ∈ tables_1 := List.mem_of_getElem? (i := 121) rfl
theorem w_122 : (Jvm.Cond.native ({ cls := "java/lang/System", name := "arraycopy", desc := "(Ljava/lang/Object;ILjava/lang/Object;II)V" } : Jvm.MethodName)) ∈ tables_1 := List.mem_of_getElem? (i := 122) rfl
theorem w_123 : (Jvm.Cond.stringLink "com/example/pactum/pactum/model/ResourceLogin" (23 : Nat) " as ") ∈ tables_1 := List.mem_of_getElem? (i := 123) rfl
theorem w_124 : (Jvm.Cond.methodLink "com/example/pactum/pactum/model/ResourceLogin" (25 : Nat) ({ cls := "java/lang/StringBuilder", name := "toString", desc := "()Ljava/lang/String;" } : Jvm.MethodName)) ∈ tables_1 := List.mem_of_getElem? (i := 124) rfl
theorem w_125 : (Jvm.Cond.declares ({ cls := "java/lang/StringBuilder", name := "toString", desc := "()Ljava/lang/String;" } : Jvm.MethodName)) ∈ tables_1 := List.mem_of_getElem? (i := 125) rfl
theorem w_126 : (Jvm.Cond.instanceMethod ({ cls := "java/lang/StringBuilder", name := "toString", desc := "()Ljava/lang/String;" } : Jvm.MethodName)) ∈ tables_1 := List.mem_of_getElem? (i := 126) rfl
theorem w_127 : (Jvm.Cond.selects "java/lang/StringBuilder" ({ cls := "java/lang/StringBuilder", name := "toString", desc := "()Ljava/lang/String;" } : Jvm.MethodName) ({ cls := "java/lang/StringBuilder", name := "toString", desc := "()Ljava/lang/String;" } : Jvm.MethodName)) ∈ tables_1 := List.mem_of_getElem? (i := 127) rfl
theorem w_128 : (Jvm.Cond.code ({ cls := "java/lang/StringBuilder", name := "toString", desc := "()Ljava/lang/String;" } : Jvm.MethodName) jdk_67_method_42_code (1 : Nat) (Option.some (Jvm.ClassFile.FieldType.object "java/lang/String"))) ∈ tables_1 := List.mem_of_getElem? (i := 128) rfl
theorem w_129 : (Jvm.Cond.classLink "java/lang/StringBuilder" (18 : Nat) "java/lang/String") ∈ tables_1 := List.mem_of_getElem? (i := 129) rfl
theorem w_130 : (Jvm.Cond.methodLink "java/lang/StringBuilder" (137 : Nat) ({ cls := "java/lang/String", name := "<init>", desc := "(Ljava/lang/StringBuilder;)V" } : Jvm.MethodName)) ∈ tables_1 := List.mem_of_getElem? (i := 130) rfl
theorem w_131 : (Jvm.Cond.instanceMethod ({ cls := "java/lang/String", name := "<init>", desc := "(Ljava/lang/StringBuilder;)V" } : Jvm.MethodName)) ∈ tables_1 := List.mem_of_getElem? (i := 131) rfl
theorem w_132 : (Jvm.Cond.code ({ cls := "java/lang/String", name := "<init>", desc := "(Ljava/lang/StringBuilder;)V" } : Jvm.MethodName) jdk_42_method_53_code (2 : Nat) (Option.none : Option Jvm.ClassFile.FieldType)) ∈ tables_1 := List.mem_of_getElem? (i := 132) rfl
theorem w_133 : (Jvm.Cond.methodLink "java/lang/String" (489 : Nat) ({ cls := "java/lang/String", name := "<init>", desc := "(Ljava/lang/AbstractStringBuilder;Ljava/lang/Void;)V" } : Jvm.MethodName)) ∈ tables_1 := List.mem_of_getElem? (i := 133) rfl
theorem w_134 : (Jvm.Cond.instanceMethod ({ cls := "java/lang/String", name := "<init>", desc := "(Ljava/lang/AbstractStringBuilder;Ljava/lang/Void;)V" } : Jvm.MethodName)) ∈ tables_1 := List.mem_of_getElem? (i := 134) rfl
theorem w_135 : (Jvm.Cond.code ({ cls := "java/lang/String", name := "<init>", desc := "(Ljava/lang/AbstractStringBuilder;Ljava/lang/Void;)V" } : Jvm.MethodName) jdk_42_method_150_code (5 : Nat) (Option.none : Option Jvm.ClassFile.FieldType)) ∈ tables_1 := List.mem_of_getElem? (i := 135) rfl
theorem w_136 : (Jvm.Cond.methodLink "java/lang/String" (552 : Nat) ({ cls := "java/lang/AbstractStringBuilder", name := "getValue", desc := "()[B" } : Jvm.MethodName)) ∈ tables_1 := List.mem_of_getElem? (i := 136) rfl
theorem w_137 : (Jvm.Cond.declares ({ cls := "java/lang/AbstractStringBuilder", name := "getValue", desc := "()[B" } : Jvm.MethodName)) ∈ tables_1 := List.mem_of_getElem? (i := 137) rfl
theorem w_138 : (Jvm.Cond.instanceMethod ({ cls := "java/lang/AbstractStringBuilder", name := "getValue", desc := "()[B" } : Jvm.MethodName)) ∈ tables_1 := List.mem_of_getElem? (i := 138) rfl
theorem w_139 : (Jvm.Cond.selects "java/lang/StringBuilder" ({ cls := "java/lang/AbstractStringBuilder", name := "getValue", desc := "()[B" } : Jvm.MethodName) ({ cls := "java/lang/AbstractStringBuilder", name := "getValue", desc := "()[B" } : Jvm.MethodName)) ∈ tables_1 := List.mem_of_getElem? (i := 139) rfl
theorem w_140 : (Jvm.Cond.code ({ cls := "java/lang/AbstractStringBuilder", name := "getValue", desc := "()[B" } : Jvm.MethodName) jdk_68_method_64_code (1 : Nat) (Option.some (Jvm.ClassFile.FieldType.array Jvm.ClassFile.FieldType.byte))) ∈ tables_1 := List.mem_of_getElem? (i := 140) rfl
theorem w_141 : (Jvm.Cond.methodLink "java/lang/String" (549 : Nat) ({ cls := "java/lang/AbstractStringBuilder", name := "length", desc := "()I" } : Jvm.MethodName)) ∈ tables_1 := List.mem_of_getElem? (i := 141) rfl
theorem w_142 : (Jvm.Cond.declares ({ cls := "java/lang/AbstractStringBuilder", name := "length", desc := "()I" } : Jvm.MethodName)) ∈ tables_1 := List.mem_of_getElem? (i := 142) rfl
theorem w_143 : (Jvm.Cond.instanceMethod ({ cls := "java/lang/AbstractStringBuilder", name := "length", desc := "()I" } : Jvm.MethodName)) ∈ tables_1 := List.mem_of_getElem? (i := 143) rfl
theorem w_144 : (Jvm.Cond.selects "java/lang/StringBuilder" ({ cls := "java/lang/AbstractStringBuilder", name := "length", desc := "()I" } : Jvm.MethodName) ({ cls := "java/lang/StringBuilder", name := "length", desc := "()I" } : Jvm.MethodName)) ∈ tables_1 := List.mem_of_getElem? (i := 144) rfl
theorem w_145 : (Jvm.Cond.instanceMethod ({ cls := "java/lang/StringBuilder", name := "length", desc := "()I" } : Jvm.MethodName)) ∈ tables_1 := List.mem_of_getElem? (i := 145) rfl
theorem w_146 : (Jvm.Cond.code ({ cls := "java/lang/StringBuilder", name := "length", desc := "()I" } : Jvm.MethodName) jdk_67_method_93_code (1 : Nat) (Option.some Jvm.ClassFile.FieldType.int)) ∈ tables_1 := List.mem_of_getElem? (i := 146) rfl
theorem w_147 : (Jvm.Cond.methodLink "java/lang/StringBuilder" (343 : Nat) ({ cls := "java/lang/AbstractStringBuilder", name := "length", desc := "()I" } : Jvm.MethodName)) ∈ tables_1 := List.mem_of_getElem? (i := 147) rfl
theorem w_148 : (Jvm.Cond.code ({ cls := "java/lang/AbstractStringBuilder", name := "length", desc := "()I" } : Jvm.MethodName) jdk_68_method_6_code (1 : Nat) (Option.some Jvm.ClassFile.FieldType.int)) ∈ tables_1 := List.mem_of_getElem? (i := 148) rfl
theorem w_149 : (Jvm.Cond.methodLink "java/lang/String" (1047 : Nat) ({ cls := "java/lang/AbstractStringBuilder", name := "isLatin1", desc := "()Z" } : Jvm.MethodName)) ∈ tables_1 := List.mem_of_getElem? (i := 149) rfl
theorem w_150 : (Jvm.Cond.declares ({ cls := "java/lang/AbstractStringBuilder", name := "isLatin1", desc := "()Z" } : Jvm.MethodName)) ∈ tables_1 := List.mem_of_getElem? (i := 150) rfl
theorem w_151 : (Jvm.Cond.instanceMethod ({ cls := "java/lang/AbstractStringBuilder", name := "isLatin1", desc := "()Z" } : Jvm.MethodName)) ∈ tables_1 := List.mem_of_getElem? (i := 151) rfl
theorem w_152 : (Jvm.Cond.selects "java/lang/StringBuilder" ({ cls := "java/lang/AbstractStringBuilder", name := "isLatin1", desc := "()Z" } : Jvm.MethodName) ({ cls := "java/lang/AbstractStringBuilder", name := "isLatin1", desc := "()Z" } : Jvm.MethodName)) ∈ tables_1 := List.mem_of_getElem? (i := 152) rfl
theorem w_153 : (Jvm.Cond.code ({ cls := "java/lang/AbstractStringBuilder", name := "isLatin1", desc := "()Z" } : Jvm.MethodName) jdk_68_method_68_code (1 : Nat) (Option.some Jvm.ClassFile.FieldType.boolean)) ∈ tables_1 := List.mem_of_getElem? (i := 153) rfl
theorem w_154 : (Jvm.Cond.methodLink "java/lang/String" (54 : Nat) ({ cls := "java/util/Arrays", name := "copyOfRange", desc := "([BII)[B" } : Jvm.MethodName)) ∈ tables_1 := List.mem_of_getElem? (i := 154) rfl
theorem w_155 : (Jvm.Cond.static ({ cls := "java/util/Arrays", name := "copyOfRange", desc := "([BII)[B" } : Jvm.MethodName)) ∈ tables_1 := List.mem_of_getElem? (i := 155) rfl
theorem w_156 : (Jvm.Cond.initialized "java/util/Arrays") ∈ tables_1 := List.mem_of_getElem? (i := 156) rfl
theorem w_157 : (Jvm.Cond.code ({ cls := "java/util/Arrays", name := "copyOfRange", desc := "([BII)[B" } : Jvm.MethodName) jdk_65_method_132_code (3 : Nat) (Option.some (Jvm.ClassFile.FieldType.array Jvm.ClassFile.FieldType.byte))) ∈ tables_1 := List.mem_of_getElem? (i := 157) rfl
theorem w_158 : (Jvm.Cond.methodLink "java/util/Arrays" (339 : Nat) ({ cls := "java/util/Arrays", name := "copyOfRangeByte", desc := "([BII)[B" } : Jvm.MethodName)) ∈ tables_1 := List.mem_of_getElem? (i := 158) rfl
theorem w_159 : (Jvm.Cond.static ({ cls := "java/util/Arrays", name := "copyOfRangeByte", desc := "([BII)[B" } : Jvm.MethodName)) ∈ tables_1 := List.mem_of_getElem? (i := 159) rfl
theorem w_160 : (Jvm.Cond.code ({ cls := "java/util/Arrays", name := "copyOfRangeByte", desc := "([BII)[B" } : Jvm.MethodName) jdk_65_method_133_code (5 : Nat) (Option.some (Jvm.ClassFile.FieldType.array Jvm.ClassFile.FieldType.byte))) ∈ tables_1 := List.mem_of_getElem? (i := 160) rfl
theorem w_161 : (Jvm.Cond.methodLink "java/util/Arrays" (343 : Nat) ({ cls := "java/util/Arrays", name := "checkLength", desc := "(II)V" } : Jvm.MethodName)) ∈ tables_1 := List.mem_of_getElem? (i := 161) rfl
theorem w_162 : (Jvm.Cond.static ({ cls := "java/util/Arrays", name := "checkLength", desc := "(II)V" } : Jvm.MethodName)) ∈ tables_1 := List.mem_of_getElem? (i := 162) rfl
theorem w_163 : (Jvm.Cond.code ({ cls := "java/util/Arrays", name := "checkLength", desc := "(II)V" } : Jvm.MethodName) jdk_65_method_131_code (2 : Nat) (Option.none : Option Jvm.ClassFile.FieldType)) ∈ tables_1 := List.mem_of_getElem? (i := 163) rfl
theorem w_164 : (Jvm.Cond.methodLink "java/util/Arrays" (304 : Nat) ({ cls := "java/lang/Math", name := "min", desc := "(II)I" } : Jvm.MethodName)) ∈ tables_1 := List.mem_of_getElem? (i := 164) rfl
theorem w_165 : (Jvm.Cond.static ({ cls := "java/lang/Math", name := "min", desc := "(II)I" } : Jvm.MethodName)) ∈ tables_1 := List.mem_of_getElem? (i := 165) rfl
theorem w_166 : (Jvm.Cond.initialized "java/lang/Math") ∈ tables_1 := List.mem_of_getElem? (i := 166) rfl
theorem w_167 : (Jvm.Cond.code ({ cls := "java/lang/Math", name := "min", desc := "(II)I" } : Jvm.MethodName) jdk_29_method_69_code (2 : Nat) (Option.some Jvm.ClassFile.FieldType.int)) ∈ tables_1 := List.mem_of_getElem? (i := 167) rfl
theorem w_168 : (Jvm.Cond.methodLink "java/util/Arrays" (150 : Nat) ({ cls := "java/lang/System", name := "arraycopy", desc := "(Ljava/lang/Object;ILjava/lang/Object;II)V" } : Jvm.MethodName)) ∈ tables_1 := List.mem_of_getElem? (i := 168) rfl
theorem w_169 : (Jvm.Cond.methodLink "com/example/pactum/pactum/model/ResourceLoginToStringPinLaw" (35 : Nat) ({ cls := "java/lang/String", name := "length", desc := "()I" } : Jvm.MethodName)) ∈ tables_1 := List.mem_of_getElem? (i := 169) rfl
theorem w_170 : (Jvm.Cond.methodLink "com/example/pactum/pactum/model/ResourceLoginToStringPinLaw" (39 : Nat) ({ cls := "com/example/pactum/pactum/model/ResourceLoginToStringPinLaw", name := "at", desc := "(Ljava/lang/String;IIICCCC)Z" } : Jvm.MethodName)) ∈ tables_1 := List.mem_of_getElem? (i := 170) rfl
theorem w_171 : (Jvm.Cond.static ({ cls := "com/example/pactum/pactum/model/ResourceLoginToStringPinLaw", name := "at", desc := "(Ljava/lang/String;IIICCCC)Z" } : Jvm.MethodName)) ∈ tables_1 := List.mem_of_getElem? (i := 171) rfl
theorem w_172 : (Jvm.Cond.code ({ cls := "com/example/pactum/pactum/model/ResourceLoginToStringPinLaw", name := "at", desc := "(Ljava/lang/String;IIICCCC)Z" } : Jvm.MethodName) method_4_code (8 : Nat) (Option.some Jvm.ClassFile.FieldType.boolean)) ∈ tables_1 := List.mem_of_getElem? (i := 172) rfl
theorem w_173 : (Jvm.Cond.methodLink "com/example/pactum/pactum/model/ResourceLoginToStringPinLaw" (12 : Nat) ({ cls := "java/lang/String", name := "charAt", desc := "(I)C" } : Jvm.MethodName)) ∈ tables_1 := List.mem_of_getElem? (i := 173) rfl
theorem w_174 : (Jvm.Cond.declares ({ cls := "java/lang/String", name := "charAt", desc := "(I)C" } : Jvm.MethodName)) ∈ tables_1 := List.mem_of_getElem? (i := 174) rfl
theorem w_175 : (Jvm.Cond.instanceMethod ({ cls := "java/lang/String", name := "charAt", desc := "(I)C" } : Jvm.MethodName)) ∈ tables_1 := List.mem_of_getElem? (i := 175) rfl
theorem w_176 : (Jvm.Cond.selects "java/lang/String" ({ cls := "java/lang/String", name := "charAt", desc := "(I)C" } : Jvm.MethodName) ({ cls := "java/lang/String", name := "charAt", desc := "(I)C" } : Jvm.MethodName)) ∈ tables_1 := List.mem_of_getElem? (i := 176) rfl
theorem w_195 : (Jvm.Cond.methodLink "com/example/pactum/pactum/model/ResourceLoginToStringPinLaw" (16 : Nat) ({ cls := "com/example/pactum/pactum/model/ResourceLoginToStringPinLaw", name := "expectedAt", desc := "(IICCCC)C" } : Jvm.MethodName)) ∈ tables_1 := List.mem_of_getElem? (i := 195) rfl
theorem w_196 : (Jvm.Cond.static ({ cls := "com/example/pactum/pactum/model/ResourceLoginToStringPinLaw", name := "expectedAt", desc := "(IICCCC)C" } : Jvm.MethodName)) ∈ tables_1 := List.mem_of_getElem? (i := 196) rfl
theorem w_197 : (Jvm.Cond.code ({ cls := "com/example/pactum/pactum/model/ResourceLoginToStringPinLaw", name := "expectedAt", desc := "(IICCCC)C" } : Jvm.MethodName) method_3_code (7 : Nat) (Option.some Jvm.ClassFile.FieldType.char)) ∈ tables_1 := List.mem_of_getElem? (i := 197) rfl
theorem d_jdk_42m149_0 : decode jdk_42_method_149_code 0 = .ok (.aload_n 0, 1) := by decide +kernel
theorem d_jdk_42m149_1 : decode jdk_42_method_149_code 1 = .ok (.invokespecial 1, 3) := by decide +kernel
theorem d_jdk_42m149_4 : decode jdk_42_method_149_code 4 = .ok (.iload_n 3, 1) := by decide +kernel
theorem d_jdk_42m149_5 : decode jdk_42_method_149_code 5 = .ok (.ifCond .ne 22, 3) := by decide +kernel
theorem d_jdk_42m149_8 : decode jdk_42_method_149_code 8 = .ok (.aload_n 0, 1) := by decide +kernel
theorem d_jdk_42m149_9 : decode jdk_42_method_149_code 9 = .ok (.ldc 7, 2) := by decide +kernel
theorem d_jdk_42m149_11 : decode jdk_42_method_149_code 11 = .ok (.getfield 9, 3) := by decide +kernel
theorem d_jdk_42m149_14 : decode jdk_42_method_149_code 14 = .ok (.putfield 9, 3) := by decide +kernel
theorem d_jdk_42m149_17 : decode jdk_42_method_149_code 17 = .ok (.aload_n 0, 1) := by decide +kernel
theorem d_jdk_42m149_18 : decode jdk_42_method_149_code 18 = .ok (.ldc 7, 2) := by decide +kernel
theorem d_jdk_42m149_20 : decode jdk_42_method_149_code 20 = .ok (.getfield 15, 3) := by decide +kernel
theorem d_jdk_42m149_23 : decode jdk_42_method_149_code 23 = .ok (.putfield 15, 3) := by decide +kernel
theorem d_jdk_42m149_26 : decode jdk_42_method_149_code 26 = .ok (.return_, 1) := by decide +kernel
theorem d_jdk_42m3_0 : decode jdk_42_method_3_code 0 = .ok (.aload_n 0, 1) := by decide +kernel
theorem d_jdk_42m3_1 : decode jdk_42_method_3_code 1 = .ok (.aload_n 1, 1) := by decide +kernel
theorem d_jdk_42m3_2 : decode jdk_42_method_3_code 2 = .ok (.iconst 0, 1) := by decide +kernel
theorem d_jdk_42m3_3 : decode jdk_42_method_3_code 3 = .ok (.aload_n 1, 1) := by decide +kernel
theorem d_jdk_42m3_4 : decode jdk_42_method_3_code 4 = .ok (.arraylength, 1) := by decide +kernel
theorem d_jdk_42m3_5 : decode jdk_42_method_3_code 5 = .ok (.aconst_null, 1) := by decide +kernel
theorem d_jdk_42m3_6 : decode jdk_42_method_3_code 6 = .ok (.invokespecial 27, 3) := by decide +kernel
theorem d_jdk_42m3_9 : decode jdk_42_method_3_code 9 = .ok (.return_, 1) := by decide +kernel
theorem d_method_2_0 : decode method_2_code 0 = .ok (.iload_n 0, 1) := by decide +kernel
theorem d_method_2_1 : decode method_2_code 1 = .ok (.ifCond .ne 14, 3) := by decide +kernel
theorem d_method_2_4 : decode method_2_code 4 = .ok (.new 7, 3) := by decide +kernel
theorem d_method_2_7 : decode method_2_code 7 = .ok (.dup, 1) := by decide +kernel
theorem d_method_2_8 : decode method_2_code 8 = .ok (.iconst 0, 1) := by decide +kernel
theorem d_method_2_9 : decode method_2_code 9 = .ok (.newarray .char, 2) := by decide +kernel
theorem d_method_2_11 : decode method_2_code 11 = .ok (.invokespecial 9, 3) := by decide +kernel
theorem d_method_2_14 : decode method_2_code 14 = .ok (.areturn, 1) := by decide +kernel
theorem d_method_2_15 : decode method_2_code 15 = .ok (.iload_n 0, 1) := by decide +kernel
theorem d_method_2_16 : decode method_2_code 16 = .ok (.iconst 1, 1) := by decide +kernel
theorem d_method_2_17 : decode method_2_code 17 = .ok (.if_icmp .ne 18, 3) := by decide +kernel
theorem d_method_2_20 : decode method_2_code 20 = .ok (.new 7, 3) := by decide +kernel
theorem d_method_2_23 : decode method_2_code 23 = .ok (.dup, 1) := by decide +kernel
theorem d_method_2_24 : decode method_2_code 24 = .ok (.iconst 1, 1) := by decide +kernel
theorem d_method_2_25 : decode method_2_code 25 = .ok (.newarray .char, 2) := by decide +kernel
theorem d_method_2_27 : decode method_2_code 27 = .ok (.dup, 1) := by decide +kernel
theorem d_method_2_28 : decode method_2_code 28 = .ok (.iconst 0, 1) := by decide +kernel
theorem d_method_2_29 : decode method_2_code 29 = .ok (.iload_n 1, 1) := by decide +kernel
theorem d_method_2_30 : decode method_2_code 30 = .ok (.castore, 1) := by decide +kernel
theorem d_method_2_31 : decode method_2_code 31 = .ok (.invokespecial 9, 3) := by decide +kernel
theorem d_method_2_34 : decode method_2_code 34 = .ok (.areturn, 1) := by decide +kernel
theorem d_method_2_35 : decode method_2_code 35 = .ok (.new 7, 3) := by decide +kernel
theorem d_method_2_38 : decode method_2_code 38 = .ok (.dup, 1) := by decide +kernel
theorem d_method_2_39 : decode method_2_code 39 = .ok (.iconst 2, 1) := by decide +kernel
theorem d_method_2_40 : decode method_2_code 40 = .ok (.newarray .char, 2) := by decide +kernel
theorem d_method_2_42 : decode method_2_code 42 = .ok (.dup, 1) := by decide +kernel
theorem d_method_2_43 : decode method_2_code 43 = .ok (.iconst 0, 1) := by decide +kernel
theorem d_method_2_44 : decode method_2_code 44 = .ok (.iload_n 1, 1) := by decide +kernel
theorem d_method_2_45 : decode method_2_code 45 = .ok (.castore, 1) := by decide +kernel
theorem d_method_2_46 : decode method_2_code 46 = .ok (.dup, 1) := by decide +kernel
theorem d_method_2_47 : decode method_2_code 47 = .ok (.iconst 1, 1) := by decide +kernel
theorem d_method_2_48 : decode method_2_code 48 = .ok (.iload_n 2, 1) := by decide +kernel
theorem d_method_2_49 : decode method_2_code 49 = .ok (.castore, 1) := by decide +kernel
theorem d_method_2_50 : decode method_2_code 50 = .ok (.invokespecial 9, 3) := by decide +kernel
theorem d_method_2_53 : decode method_2_code 53 = .ok (.areturn, 1) := by decide +kernel
theorem d_jdk_30m1_0 : decode jdk_30_method_1_code 0 = .ok (.aload_n 0, 1) := by decide +kernel
theorem d_jdk_30m1_1 : decode jdk_30_method_1_code 1 = .ok (.invokespecial 1, 3) := by decide +kernel
theorem d_jdk_30m1_4 : decode jdk_30_method_1_code 4 = .ok (.return_, 1) := by decide +kernel
theorem d_prog_9m1_0 : decode prog_9_method_1_code 0 = .ok (.aload_n 0, 1) := by decide +kernel
theorem d_prog_9m1_1 : decode prog_9_method_1_code 1 = .ok (.invokespecial 1, 3) := by decide +kernel
theorem d_prog_9m1_4 : decode prog_9_method_1_code 4 = .ok (.aload_n 0, 1) := by decide +kernel
theorem d_prog_9m1_5 : decode prog_9_method_1_code 5 = .ok (.aload_n 1, 1) := by decide +kernel
theorem d_prog_9m1_6 : decode prog_9_method_1_code 6 = .ok (.putfield 7, 3) := by decide +kernel
theorem d_prog_9m1_9 : decode prog_9_method_1_code 9 = .ok (.aload_n 0, 1) := by decide +kernel
theorem d_prog_9m1_10 : decode prog_9_method_1_code 10 = .ok (.aload_n 2, 1) := by decide +kernel
theorem d_prog_9m1_11 : decode prog_9_method_1_code 11 = .ok (.putfield 13, 3) := by decide +kernel
theorem d_prog_9m1_14 : decode prog_9_method_1_code 14 = .ok (.return_, 1) := by decide +kernel
theorem d_jdk_68m2_0 : decode jdk_68_method_2_code 0 = .ok (.aload_n 0, 1) := by decide +kernel
theorem d_jdk_68m2_1 : decode jdk_68_method_2_code 1 = .ok (.invokespecial 3, 3) := by decide +kernel
theorem d_jdk_68m2_4 : decode jdk_68_method_2_code 4 = .ok (.getstatic 18, 3) := by decide +kernel
theorem d_jdk_68m2_7 : decode jdk_68_method_2_code 7 = .ok (.ifCond .eq 18, 3) := by decide +kernel
theorem d_jdk_68m2_10 : decode jdk_68_method_2_code 10 = .ok (.aload_n 0, 1) := by decide +kernel
theorem d_jdk_68m2_11 : decode jdk_68_method_2_code 11 = .ok (.iload_n 1, 1) := by decide +kernel
theorem d_jdk_68m2_12 : decode jdk_68_method_2_code 12 = .ok (.newarray .byte, 2) := by decide +kernel
theorem d_jdk_68m2_14 : decode jdk_68_method_2_code 14 = .ok (.putfield 15, 3) := by decide +kernel
theorem d_jdk_68m2_17 : decode jdk_68_method_2_code 17 = .ok (.aload_n 0, 1) := by decide +kernel
theorem d_jdk_68m2_18 : decode jdk_68_method_2_code 18 = .ok (.iconst 0, 1) := by decide +kernel
theorem d_jdk_68m2_19 : decode jdk_68_method_2_code 19 = .ok (.putfield 22, 3) := by decide +kernel
theorem d_jdk_68m2_22 : decode jdk_68_method_2_code 22 = .ok (.goto 16, 3) := by decide +kernel
theorem d_jdk_68m2_38 : decode jdk_68_method_2_code 38 = .ok (.return_, 1) := by decide +kernel
theorem d_jdk_67m1_0 : decode jdk_67_method_1_code 0 = .ok (.aload_n 0, 1) := by decide +kernel
theorem d_jdk_67m1_1 : decode jdk_67_method_1_code 1 = .ok (.bipush 16, 2) := by decide +kernel
theorem d_jdk_67m1_3 : decode jdk_67_method_1_code 3 = .ok (.invokespecial 1, 3) := by decide +kernel
theorem d_jdk_67m1_6 : decode jdk_67_method_1_code 6 = .ok (.return_, 1) := by decide +kernel
theorem d_jdk_68m9_0 : decode jdk_68_method_9_code 0 = .ok (.aload_n 0, 1) := by decide +kernel
theorem d_jdk_68m9_1 : decode jdk_68_method_9_code 1 = .ok (.getfield 15, 3) := by decide +kernel
theorem d_jdk_68m9_4 : decode jdk_68_method_9_code 4 = .ok (.arraylength, 1) := by decide +kernel
theorem d_jdk_68m9_5 : decode jdk_68_method_9_code 5 = .ok (.aload_n 0, 1) := by decide +kernel
theorem d_jdk_68m9_6 : decode jdk_68_method_9_code 6 = .ok (.getfield 22, 3) := by decide +kernel
theorem d_jdk_68m9_9 : decode jdk_68_method_9_code 9 = .ok (.ishr, 1) := by decide +kernel
theorem d_jdk_68m9_10 : decode jdk_68_method_9_code 10 = .ok (.istore_n 2, 1) := by decide +kernel
theorem d_jdk_68m9_11 : decode jdk_68_method_9_code 11 = .ok (.iload_n 1, 1) := by decide +kernel
theorem d_jdk_68m9_12 : decode jdk_68_method_9_code 12 = .ok (.iload_n 2, 1) := by decide +kernel
theorem d_jdk_68m9_13 : decode jdk_68_method_9_code 13 = .ok (.isub, 1) := by decide +kernel
theorem d_jdk_68m9_14 : decode jdk_68_method_9_code 14 = .ok (.ifCond .le 24, 3) := by decide +kernel
theorem d_jdk_68m9_38 : decode jdk_68_method_9_code 38 = .ok (.return_, 1) := by decide +kernel
theorem d_jdk_42m152_0 : decode jdk_42_method_152_code 0 = .ok (.getstatic 38, 3) := by decide +kernel
theorem d_jdk_42m152_3 : decode jdk_42_method_152_code 3 = .ok (.ifCond .eq 10, 3) := by decide +kernel
theorem d_jdk_42m152_6 : decode jdk_42_method_152_code 6 = .ok (.aload_n 0, 1) := by decide +kernel
theorem d_jdk_42m152_7 : decode jdk_42_method_152_code 7 = .ok (.getfield 15, 3) := by decide +kernel
theorem d_jdk_42m152_10 : decode jdk_42_method_152_code 10 = .ok (.goto 4, 3) := by decide +kernel
theorem d_jdk_42m152_14 : decode jdk_42_method_152_code 14 = .ok (.ireturn, 1) := by decide +kernel
theorem d_jdk_68m71_0 : decode jdk_68_method_71_code 0 = .ok (.getstatic 18, 3) := by decide +kernel
theorem d_jdk_68m71_3 : decode jdk_68_method_71_code 3 = .ok (.ifCond .eq 18, 3) := by decide +kernel
theorem d_jdk_68m71_6 : decode jdk_68_method_71_code 6 = .ok (.aload_n 0, 1) := by decide +kernel
theorem d_jdk_68m71_7 : decode jdk_68_method_71_code 7 = .ok (.getfield 22, 3) := by decide +kernel
theorem d_jdk_68m71_10 : decode jdk_68_method_71_code 10 = .ok (.aload_n 1, 1) := by decide +kernel
theorem d_jdk_68m71_11 : decode jdk_68_method_71_code 11 = .ok (.invokevirtual 40, 3) := by decide +kernel
theorem d_jdk_68m71_14 : decode jdk_68_method_71_code 14 = .ok (.if_icmp .eq 7, 3) := by decide +kernel
theorem d_jdk_68m71_21 : decode jdk_68_method_71_code 21 = .ok (.return_, 1) := by decide +kernel
theorem d_jdk_42m147_0 : decode jdk_42_method_147_code 0 = .ok (.aload_n 0, 1) := by decide +kernel
theorem d_jdk_42m147_1 : decode jdk_42_method_147_code 1 = .ok (.invokevirtual 335, 3) := by decide +kernel
theorem d_jdk_42m147_4 : decode jdk_42_method_147_code 4 = .ok (.iload_n 3, 1) := by decide +kernel
theorem d_jdk_42m147_5 : decode jdk_42_method_147_code 5 = .ok (.if_icmp .ne 23, 3) := by decide +kernel
theorem d_jdk_42m147_8 : decode jdk_42_method_147_code 8 = .ok (.aload_n 0, 1) := by decide +kernel
theorem d_jdk_42m147_9 : decode jdk_42_method_147_code 9 = .ok (.getfield 9, 3) := by decide +kernel
theorem d_jdk_42m147_12 : decode jdk_42_method_147_code 12 = .ok (.iconst 0, 1) := by decide +kernel
theorem d_jdk_42m147_13 : decode jdk_42_method_147_code 13 = .ok (.aload_n 1, 1) := by decide +kernel
theorem d_jdk_42m147_14 : decode jdk_42_method_147_code 14 = .ok (.iload_n 2, 1) := by decide +kernel
theorem d_jdk_42m147_15 : decode jdk_42_method_147_code 15 = .ok (.iload_n 3, 1) := by decide +kernel
theorem d_jdk_42m147_16 : decode jdk_42_method_147_code 16 = .ok (.ishl, 1) := by decide +kernel
theorem d_jdk_42m147_17 : decode jdk_42_method_147_code 17 = .ok (.aload_n 0, 1) := by decide +kernel
theorem d_jdk_42m147_18 : decode jdk_42_method_147_code 18 = .ok (.getfield 9, 3) := by decide +kernel
theorem d_jdk_42m147_21 : decode jdk_42_method_147_code 21 = .ok (.arraylength, 1) := by decide +kernel
theorem d_jdk_42m147_22 : decode jdk_42_method_147_code 22 = .ok (.invokestatic 212, 3) := by decide +kernel
theorem d_jdk_42m147_25 : decode jdk_42_method_147_code 25 = .ok (.goto 18, 3) := by decide +kernel
theorem d_jdk_42m147_43 : decode jdk_42_method_147_code 43 = .ok (.return_, 1) := by decide +kernel
theorem d_jdk_68m73_0 : decode jdk_68_method_73_code 0 = .ok (.aload_n 0, 1) := by decide +kernel
theorem d_jdk_68m73_1 : decode jdk_68_method_73_code 1 = .ok (.aload_n 2, 1) := by decide +kernel
theorem d_jdk_68m73_2 : decode jdk_68_method_73_code 2 = .ok (.invokevirtual 397, 3) := by decide +kernel
theorem d_jdk_68m73_5 : decode jdk_68_method_73_code 5 = .ok (.aload_n 2, 1) := by decide +kernel
theorem d_jdk_68m73_6 : decode jdk_68_method_73_code 6 = .ok (.aload_n 0, 1) := by decide +kernel
theorem d_jdk_68m73_7 : decode jdk_68_method_73_code 7 = .ok (.getfield 15, 3) := by decide +kernel
theorem d_jdk_68m73_10 : decode jdk_68_method_73_code 10 = .ok (.iload_n 1, 1) := by decide +kernel
theorem d_jdk_68m73_11 : decode jdk_68_method_73_code 11 = .ok (.aload_n 0, 1) := by decide +kernel
theorem d_jdk_68m73_12 : decode jdk_68_method_73_code 12 = .ok (.getfield 22, 3) := by decide +kernel
theorem d_jdk_68m73_15 : decode jdk_68_method_73_code 15 = .ok (.invokevirtual 399, 3) := by decide +kernel
theorem d_jdk_68m73_18 : decode jdk_68_method_73_code 18 = .ok (.return_, 1) := by decide +kernel
theorem d_jdk_68m22_0 : decode jdk_68_method_22_code 0 = .ok (.aload_n 1, 1) := by decide +kernel
theorem d_jdk_68m22_1 : decode jdk_68_method_22_code 1 = .ok (.ifnonnull 8, 3) := by decide +kernel
theorem d_jdk_68m22_9 : decode jdk_68_method_22_code 9 = .ok (.aload_n 1, 1) := by decide +kernel
theorem d_jdk_68m22_10 : decode jdk_68_method_22_code 10 = .ok (.invokevirtual 32, 3) := by decide +kernel
theorem d_jdk_68m22_13 : decode jdk_68_method_22_code 13 = .ok (.istore_n 2, 1) := by decide +kernel
theorem d_jdk_68m22_14 : decode jdk_68_method_22_code 14 = .ok (.aload_n 0, 1) := by decide +kernel
theorem d_jdk_68m22_15 : decode jdk_68_method_22_code 15 = .ok (.aload_n 0, 1) := by decide +kernel
theorem d_jdk_68m22_16 : decode jdk_68_method_22_code 16 = .ok (.getfield 79, 3) := by decide +kernel
theorem d_jdk_68m22_19 : decode jdk_68_method_22_code 19 = .ok (.iload_n 2, 1) := by decide +kernel
theorem d_jdk_68m22_20 : decode jdk_68_method_22_code 20 = .ok (.iadd, 1) := by decide +kernel
theorem d_jdk_68m22_21 : decode jdk_68_method_22_code 21 = .ok (.invokevirtual 100, 3) := by decide +kernel
theorem d_jdk_68m22_24 : decode jdk_68_method_22_code 24 = .ok (.aload_n 0, 1) := by decide +kernel
theorem d_jdk_68m22_25 : decode jdk_68_method_22_code 25 = .ok (.aload_n 0, 1) := by decide +kernel
theorem d_jdk_68m22_26 : decode jdk_68_method_22_code 26 = .ok (.getfield 79, 3) := by decide +kernel
theorem d_jdk_68m22_29 : decode jdk_68_method_22_code 29 = .ok (.aload_n 1, 1) := by decide +kernel
theorem d_jdk_68m22_30 : decode jdk_68_method_22_code 30 = .ok (.invokevirtual 208, 3) := by decide +kernel
theorem d_jdk_68m22_33 : decode jdk_68_method_22_code 33 = .ok (.aload_n 0, 1) := by decide +kernel
theorem d_jdk_68m22_34 : decode jdk_68_method_22_code 34 = .ok (.dup, 1) := by decide +kernel
theorem d_jdk_68m22_35 : decode jdk_68_method_22_code 35 = .ok (.getfield 79, 3) := by decide +kernel
theorem d_jdk_68m22_38 : decode jdk_68_method_22_code 38 = .ok (.iload_n 2, 1) := by decide +kernel
theorem d_jdk_68m22_39 : decode jdk_68_method_22_code 39 = .ok (.iadd, 1) := by decide +kernel
theorem d_jdk_68m22_40 : decode jdk_68_method_22_code 40 = .ok (.putfield 79, 3) := by decide +kernel
theorem d_jdk_68m22_43 : decode jdk_68_method_22_code 43 = .ok (.aload_n 0, 1) := by decide +kernel
theorem d_jdk_68m22_44 : decode jdk_68_method_22_code 44 = .ok (.areturn, 1) := by decide +kernel
theorem d_jdk_67m7_0 : decode jdk_67_method_7_code 0 = .ok (.aload_n 0, 1) := by decide +kernel
theorem d_jdk_67m7_1 : decode jdk_67_method_7_code 1 = .ok (.aload_n 1, 1) := by decide +kernel
theorem d_jdk_67m7_2 : decode jdk_67_method_7_code 2 = .ok (.invokespecial 29, 3) := by decide +kernel
theorem d_jdk_67m7_5 : decode jdk_67_method_7_code 5 = .ok (.pop, 1) := by decide +kernel
theorem d_jdk_67m7_6 : decode jdk_67_method_7_code 6 = .ok (.aload_n 0, 1) := by decide +kernel
theorem d_jdk_67m7_7 : decode jdk_67_method_7_code 7 = .ok (.areturn, 1) := by decide +kernel
theorem d_jdk_68m64_0 : decode jdk_68_method_64_code 0 = .ok (.aload_n 0, 1) := by decide +kernel
theorem d_jdk_68m64_1 : decode jdk_68_method_64_code 1 = .ok (.getfield 15, 3) := by decide +kernel
theorem d_jdk_68m64_4 : decode jdk_68_method_64_code 4 = .ok (.areturn, 1) := by decide +kernel
theorem d_jdk_68m6_0 : decode jdk_68_method_6_code 0 = .ok (.aload_n 0, 1) := by decide +kernel
theorem d_jdk_68m6_1 : decode jdk_68_method_6_code 1 = .ok (.getfield 79, 3) := by decide +kernel
theorem d_jdk_68m6_4 : decode jdk_68_method_6_code 4 = .ok (.ireturn, 1) := by decide +kernel
theorem d_jdk_67m93_0 : decode jdk_67_method_93_code 0 = .ok (.aload_n 0, 1) := by decide +kernel
theorem d_jdk_67m93_1 : decode jdk_67_method_93_code 1 = .ok (.invokespecial 343, 3) := by decide +kernel
theorem d_jdk_67m93_4 : decode jdk_67_method_93_code 4 = .ok (.ireturn, 1) := by decide +kernel
theorem d_jdk_68m68_0 : decode jdk_68_method_68_code 0 = .ok (.getstatic 18, 3) := by decide +kernel
theorem d_jdk_68m68_3 : decode jdk_68_method_68_code 3 = .ok (.ifCond .eq 14, 3) := by decide +kernel
theorem d_jdk_68m68_6 : decode jdk_68_method_68_code 6 = .ok (.aload_n 0, 1) := by decide +kernel
theorem d_jdk_68m68_7 : decode jdk_68_method_68_code 7 = .ok (.getfield 22, 3) := by decide +kernel
theorem d_jdk_68m68_10 : decode jdk_68_method_68_code 10 = .ok (.ifCond .ne 7, 3) := by decide +kernel
theorem d_jdk_68m68_13 : decode jdk_68_method_68_code 13 = .ok (.iconst 1, 1) := by decide +kernel
theorem d_jdk_68m68_14 : decode jdk_68_method_68_code 14 = .ok (.goto 4, 3) := by decide +kernel
theorem d_jdk_68m68_18 : decode jdk_68_method_68_code 18 = .ok (.ireturn, 1) := by decide +kernel
theorem d_jdk_65m131_0 : decode jdk_65_method_131_code 0 = .ok (.iload_n 1, 1) := by decide +kernel
theorem d_jdk_65m131_1 : decode jdk_65_method_131_code 1 = .ok (.iload_n 0, 1) := by decide +kernel
theorem d_jdk_65m131_2 : decode jdk_65_method_131_code 2 = .ok (.if_icmp .ge 35, 3) := by decide +kernel
theorem d_jdk_65m131_37 : decode jdk_65_method_131_code 37 = .ok (.return_, 1) := by decide +kernel
theorem d_jdk_29m69_0 : decode jdk_29_method_69_code 0 = .ok (.iload_n 0, 1) := by decide +kernel
theorem d_jdk_29m69_1 : decode jdk_29_method_69_code 1 = .ok (.iload_n 1, 1) := by decide +kernel
theorem d_jdk_29m69_2 : decode jdk_29_method_69_code 2 = .ok (.if_icmp .gt 7, 3) := by decide +kernel
theorem d_jdk_29m69_9 : decode jdk_29_method_69_code 9 = .ok (.iload_n 1, 1) := by decide +kernel
theorem d_jdk_29m69_10 : decode jdk_29_method_69_code 10 = .ok (.ireturn, 1) := by decide +kernel
theorem d_jdk_65m133_0 : decode jdk_65_method_133_code 0 = .ok (.iload_n 1, 1) := by decide +kernel
theorem d_jdk_65m133_1 : decode jdk_65_method_133_code 1 = .ok (.iload_n 2, 1) := by decide +kernel
theorem d_jdk_65m133_2 : decode jdk_65_method_133_code 2 = .ok (.invokestatic 343, 3) := by decide +kernel
theorem d_jdk_65m133_5 : decode jdk_65_method_133_code 5 = .ok (.iload_n 2, 1) := by decide +kernel
theorem d_jdk_65m133_6 : decode jdk_65_method_133_code 6 = .ok (.iload_n 1, 1) := by decide +kernel
theorem d_jdk_65m133_7 : decode jdk_65_method_133_code 7 = .ok (.isub, 1) := by decide +kernel
theorem d_jdk_65m133_8 : decode jdk_65_method_133_code 8 = .ok (.istore_n 3, 1) := by decide +kernel
theorem d_jdk_65m133_9 : decode jdk_65_method_133_code 9 = .ok (.iload_n 3, 1) := by decide +kernel
theorem d_jdk_65m133_10 : decode jdk_65_method_133_code 10 = .ok (.newarray .byte, 2) := by decide +kernel
theorem d_jdk_65m133_12 : decode jdk_65_method_133_code 12 = .ok (.astore 4, 2) := by decide +kernel
theorem d_jdk_65m133_14 : decode jdk_65_method_133_code 14 = .ok (.aload_n 0, 1) := by decide +kernel
theorem d_jdk_65m133_15 : decode jdk_65_method_133_code 15 = .ok (.iload_n 1, 1) := by decide +kernel
theorem d_jdk_65m133_16 : decode jdk_65_method_133_code 16 = .ok (.aload 4, 2) := by decide +kernel
theorem d_jdk_65m133_18 : decode jdk_65_method_133_code 18 = .ok (.iconst 0, 1) := by decide +kernel
theorem d_jdk_65m133_19 : decode jdk_65_method_133_code 19 = .ok (.aload_n 0, 1) := by decide +kernel
theorem d_jdk_65m133_20 : decode jdk_65_method_133_code 20 = .ok (.arraylength, 1) := by decide +kernel
theorem d_jdk_65m133_21 : decode jdk_65_method_133_code 21 = .ok (.iload_n 1, 1) := by decide +kernel
theorem d_jdk_65m133_22 : decode jdk_65_method_133_code 22 = .ok (.isub, 1) := by decide +kernel
theorem d_jdk_65m133_23 : decode jdk_65_method_133_code 23 = .ok (.iload_n 3, 1) := by decide +kernel
theorem d_jdk_65m133_24 : decode jdk_65_method_133_code 24 = .ok (.invokestatic 304, 3) := by decide +kernel
theorem d_jdk_65m133_27 : decode jdk_65_method_133_code 27 = .ok (.invokestatic 150, 3) := by decide +kernel
theorem d_jdk_65m133_30 : decode jdk_65_method_133_code 30 = .ok (.aload 4, 2) := by decide +kernel
theorem d_jdk_65m133_32 : decode jdk_65_method_133_code 32 = .ok (.areturn, 1) := by decide +kernel
theorem d_jdk_65m132_0 : decode jdk_65_method_132_code 0 = .ok (.iload_n 1, 1) := by decide +kernel
theorem d_jdk_65m132_1 : decode jdk_65_method_132_code 1 = .ok (.ifCond .ne 9, 3) := by decide +kernel
theorem d_jdk_65m132_4 : decode jdk_65_method_132_code 4 = .ok (.iload_n 2, 1) := by decide +kernel
theorem d_jdk_65m132_5 : decode jdk_65_method_132_code 5 = .ok (.aload_n 0, 1) := by decide +kernel
theorem d_jdk_65m132_6 : decode jdk_65_method_132_code 6 = .ok (.arraylength, 1) := by decide +kernel
theorem d_jdk_65m132_7 : decode jdk_65_method_132_code 7 = .ok (.if_icmp .eq 10, 3) := by decide +kernel
theorem d_jdk_65m132_10 : decode jdk_65_method_132_code 10 = .ok (.aload_n 0, 1) := by decide +kernel
theorem d_jdk_65m132_11 : decode jdk_65_method_132_code 11 = .ok (.iload_n 1, 1) := by decide +kernel
theorem d_jdk_65m132_12 : decode jdk_65_method_132_code 12 = .ok (.iload_n 2, 1) := by decide +kernel
theorem d_jdk_65m132_13 : decode jdk_65_method_132_code 13 = .ok (.invokestatic 339, 3) := by decide +kernel
theorem d_jdk_65m132_16 : decode jdk_65_method_132_code 16 = .ok (.areturn, 1) := by decide +kernel
theorem d_jdk_42m150_0 : decode jdk_42_method_150_code 0 = .ok (.aload_n 0, 1) := by decide +kernel
theorem d_jdk_42m150_1 : decode jdk_42_method_150_code 1 = .ok (.invokespecial 1, 3) := by decide +kernel
theorem d_jdk_42m150_4 : decode jdk_42_method_150_code 4 = .ok (.aload_n 1, 1) := by decide +kernel
theorem d_jdk_42m150_5 : decode jdk_42_method_150_code 5 = .ok (.invokevirtual 552, 3) := by decide +kernel
theorem d_jdk_42m150_8 : decode jdk_42_method_150_code 8 = .ok (.astore_n 3, 1) := by decide +kernel
theorem d_jdk_42m150_9 : decode jdk_42_method_150_code 9 = .ok (.aload_n 1, 1) := by decide +kernel
theorem d_jdk_42m150_10 : decode jdk_42_method_150_code 10 = .ok (.invokevirtual 549, 3) := by decide +kernel
theorem d_jdk_42m150_13 : decode jdk_42_method_150_code 13 = .ok (.istore 4, 2) := by decide +kernel
theorem d_jdk_42m150_15 : decode jdk_42_method_150_code 15 = .ok (.aload_n 1, 1) := by decide +kernel
theorem d_jdk_42m150_16 : decode jdk_42_method_150_code 16 = .ok (.invokevirtual 1047, 3) := by decide +kernel
theorem d_jdk_42m150_19 : decode jdk_42_method_150_code 19 = .ok (.ifCond .eq 22, 3) := by decide +kernel
theorem d_jdk_42m150_22 : decode jdk_42_method_150_code 22 = .ok (.aload_n 0, 1) := by decide +kernel
theorem d_jdk_42m150_23 : decode jdk_42_method_150_code 23 = .ok (.iconst 0, 1) := by decide +kernel
theorem d_jdk_42m150_24 : decode jdk_42_method_150_code 24 = .ok (.putfield 15, 3) := by decide +kernel
theorem d_jdk_42m150_27 : decode jdk_42_method_150_code 27 = .ok (.aload_n 0, 1) := by decide +kernel
theorem d_jdk_42m150_28 : decode jdk_42_method_150_code 28 = .ok (.aload_n 3, 1) := by decide +kernel
theorem d_jdk_42m150_29 : decode jdk_42_method_150_code 29 = .ok (.iconst 0, 1) := by decide +kernel
theorem d_jdk_42m150_30 : decode jdk_42_method_150_code 30 = .ok (.iload 4, 2) := by decide +kernel
theorem d_jdk_42m150_32 : decode jdk_42_method_150_code 32 = .ok (.invokestatic 54, 3) := by decide +kernel
theorem d_jdk_42m150_35 : decode jdk_42_method_150_code 35 = .ok (.putfield 9, 3) := by decide +kernel
theorem d_jdk_42m150_38 : decode jdk_42_method_150_code 38 = .ok (.goto 59, 3) := by decide +kernel
theorem d_jdk_42m150_97 : decode jdk_42_method_150_code 97 = .ok (.return_, 1) := by decide +kernel
theorem d_jdk_42m53_0 : decode jdk_42_method_53_code 0 = .ok (.aload_n 0, 1) := by decide +kernel
theorem d_jdk_42m53_1 : decode jdk_42_method_53_code 1 = .ok (.aload_n 1, 1) := by decide +kernel
theorem d_jdk_42m53_2 : decode jdk_42_method_53_code 2 = .ok (.aconst_null, 1) := by decide +kernel
theorem d_jdk_42m53_3 : decode jdk_42_method_53_code 3 = .ok (.invokespecial 489, 3) := by decide +kernel
theorem d_jdk_42m53_6 : decode jdk_42_method_53_code 6 = .ok (.return_, 1) := by decide +kernel
theorem d_jdk_67m42_0 : decode jdk_67_method_42_code 0 = .ok (.new 18, 3) := by decide +kernel
theorem d_jdk_67m42_3 : decode jdk_67_method_42_code 3 = .ok (.dup, 1) := by decide +kernel
theorem d_jdk_67m42_4 : decode jdk_67_method_42_code 4 = .ok (.aload_n 0, 1) := by decide +kernel
theorem d_jdk_67m42_5 : decode jdk_67_method_42_code 5 = .ok (.invokespecial 137, 3) := by decide +kernel
theorem d_jdk_67m42_8 : decode jdk_67_method_42_code 8 = .ok (.areturn, 1) := by decide +kernel
theorem d_prog_9m2_0 : decode prog_9_method_2_code 0 = .ok (.aload_n 0, 1) := by decide +kernel
theorem d_prog_9m2_1 : decode prog_9_method_2_code 1 = .ok (.getfield 13, 3) := by decide +kernel
theorem d_prog_9m2_4 : decode prog_9_method_2_code 4 = .ok (.ifnonnull 10, 3) := by decide +kernel
theorem d_prog_9m2_7 : decode prog_9_method_2_code 7 = .ok (.aload_n 0, 1) := by decide +kernel
theorem d_prog_9m2_8 : decode prog_9_method_2_code 8 = .ok (.getfield 7, 3) := by decide +kernel
theorem d_prog_9m2_11 : decode prog_9_method_2_code 11 = .ok (.goto 32, 3) := by decide +kernel
theorem d_prog_9m2_43 : decode prog_9_method_2_code 43 = .ok (.areturn, 1) := by decide +kernel
theorem d_prog_9m2_14 : decode prog_9_method_2_code 14 = .ok (.new 16, 3) := by decide +kernel
theorem d_prog_9m2_17 : decode prog_9_method_2_code 17 = .ok (.dup, 1) := by decide +kernel
theorem d_prog_9m2_18 : decode prog_9_method_2_code 18 = .ok (.invokespecial 18, 3) := by decide +kernel
theorem d_prog_9m2_21 : decode prog_9_method_2_code 21 = .ok (.aload_n 0, 1) := by decide +kernel
theorem d_prog_9m2_22 : decode prog_9_method_2_code 22 = .ok (.getfield 7, 3) := by decide +kernel
theorem d_prog_9m2_25 : decode prog_9_method_2_code 25 = .ok (.invokevirtual 19, 3) := by decide +kernel
theorem d_prog_9m2_28 : decode prog_9_method_2_code 28 = .ok (.ldc 23, 2) := by decide +kernel
theorem d_prog_9m2_30 : decode prog_9_method_2_code 30 = .ok (.invokevirtual 19, 3) := by decide +kernel
theorem d_prog_9m2_33 : decode prog_9_method_2_code 33 = .ok (.aload_n 0, 1) := by decide +kernel
theorem d_prog_9m2_34 : decode prog_9_method_2_code 34 = .ok (.getfield 13, 3) := by decide +kernel
theorem d_prog_9m2_37 : decode prog_9_method_2_code 37 = .ok (.invokevirtual 19, 3) := by decide +kernel
theorem d_prog_9m2_40 : decode prog_9_method_2_code 40 = .ok (.invokevirtual 25, 3) := by decide +kernel
theorem d_method_3_0 : decode method_3_code 0 = .ok (.iload_n 0, 1) := by decide +kernel
theorem d_method_3_1 : decode method_3_code 1 = .ok (.iload_n 1, 1) := by decide +kernel
theorem d_method_3_2 : decode method_3_code 2 = .ok (.if_icmp .ge 13, 3) := by decide +kernel
theorem d_method_3_5 : decode method_3_code 5 = .ok (.iload_n 0, 1) := by decide +kernel
theorem d_method_3_6 : decode method_3_code 6 = .ok (.ifCond .ne 7, 3) := by decide +kernel
theorem d_method_3_9 : decode method_3_code 9 = .ok (.iload_n 2, 1) := by decide +kernel
theorem d_method_3_10 : decode method_3_code 10 = .ok (.goto 4, 3) := by decide +kernel
theorem d_method_3_14 : decode method_3_code 14 = .ok (.ireturn, 1) := by decide +kernel
theorem d_method_3_13 : decode method_3_code 13 = .ok (.iload_n 3, 1) := by decide +kernel
theorem d_method_3_15 : decode method_3_code 15 = .ok (.iload_n 0, 1) := by decide +kernel
theorem d_method_3_16 : decode method_3_code 16 = .ok (.iload_n 1, 1) := by decide +kernel
theorem d_method_3_17 : decode method_3_code 17 = .ok (.isub, 1) := by decide +kernel
theorem d_method_3_18 : decode method_3_code 18 = .ok (.istore 6, 2) := by decide +kernel
theorem d_method_3_20 : decode method_3_code 20 = .ok (.iload 6, 2) := by decide +kernel
theorem d_method_3_22 : decode method_3_code 22 = .ok (.ifCond .ne 6, 3) := by decide +kernel
theorem d_method_3_25 : decode method_3_code 25 = .ok (.bipush 32, 2) := by decide +kernel
theorem d_method_3_27 : decode method_3_code 27 = .ok (.ireturn, 1) := by decide +kernel
theorem d_method_3_28 : decode method_3_code 28 = .ok (.iload 6, 2) := by decide +kernel
theorem d_method_3_30 : decode method_3_code 30 = .ok (.iconst 1, 1) := by decide +kernel
theorem d_method_3_31 : decode method_3_code 31 = .ok (.if_icmp .ne 6, 3) := by decide +kernel
theorem d_method_3_34 : decode method_3_code 34 = .ok (.bipush 97, 2) := by decide +kernel
theorem d_method_3_36 : decode method_3_code 36 = .ok (.ireturn, 1) := by decide +kernel
theorem d_method_3_37 : decode method_3_code 37 = .ok (.iload 6, 2) := by decide +kernel
theorem d_method_3_39 : decode method_3_code 39 = .ok (.iconst 2, 1) := by decide +kernel
theorem d_method_3_40 : decode method_3_code 40 = .ok (.if_icmp .ne 6, 3) := by decide +kernel
theorem d_method_3_43 : decode method_3_code 43 = .ok (.bipush 115, 2) := by decide +kernel
theorem d_method_3_45 : decode method_3_code 45 = .ok (.ireturn, 1) := by decide +kernel
theorem d_method_3_46 : decode method_3_code 46 = .ok (.iload 6, 2) := by decide +kernel
theorem d_method_3_48 : decode method_3_code 48 = .ok (.iconst 3, 1) := by decide +kernel
theorem d_method_3_49 : decode method_3_code 49 = .ok (.if_icmp .ne 6, 3) := by decide +kernel
theorem d_method_3_52 : decode method_3_code 52 = .ok (.bipush 32, 2) := by decide +kernel
theorem d_method_3_54 : decode method_3_code 54 = .ok (.ireturn, 1) := by decide +kernel
theorem d_method_3_55 : decode method_3_code 55 = .ok (.iload 6, 2) := by decide +kernel
theorem d_method_3_57 : decode method_3_code 57 = .ok (.iconst 4, 1) := by decide +kernel
theorem d_method_3_58 : decode method_3_code 58 = .ok (.if_icmp .ne 8, 3) := by decide +kernel
theorem d_method_3_61 : decode method_3_code 61 = .ok (.iload 4, 2) := by decide +kernel
theorem d_method_3_63 : decode method_3_code 63 = .ok (.goto 5, 3) := by decide +kernel
theorem d_method_3_68 : decode method_3_code 68 = .ok (.ireturn, 1) := by decide +kernel
theorem d_method_3_66 : decode method_3_code 66 = .ok (.iload 5, 2) := by decide +kernel
theorem d_method_4_0 : decode method_4_code 0 = .ok (.iload_n 1, 1) := by decide +kernel
theorem d_method_4_1 : decode method_4_code 1 = .ok (.iload_n 2, 1) := by decide +kernel
theorem d_method_4_2 : decode method_4_code 2 = .ok (.if_icmp .ge 24, 3) := by decide +kernel
theorem d_method_4_26 : decode method_4_code 26 = .ok (.iconst 1, 1) := by decide +kernel
theorem d_method_4_27 : decode method_4_code 27 = .ok (.goto 4, 3) := by decide +kernel
theorem d_method_4_31 : decode method_4_code 31 = .ok (.ireturn, 1) := by decide +kernel
theorem d_method_4_5 : decode method_4_code 5 = .ok (.aload_n 0, 1) := by decide +kernel
theorem d_method_4_6 : decode method_4_code 6 = .ok (.iload_n 1, 1) := by decide +kernel
theorem d_method_4_7 : decode method_4_code 7 = .ok (.invokevirtual 12, 3) := by decide +kernel
theorem d_method_4_10 : decode method_4_code 10 = .ok (.iload_n 1, 1) := by decide +kernel
theorem d_method_4_11 : decode method_4_code 11 = .ok (.iload_n 3, 1) := by decide +kernel
theorem d_method_4_12 : decode method_4_code 12 = .ok (.iload 4, 2) := by decide +kernel
theorem d_method_4_14 : decode method_4_code 14 = .ok (.iload 5, 2) := by decide +kernel
theorem d_method_4_16 : decode method_4_code 16 = .ok (.iload 6, 2) := by decide +kernel
theorem d_method_4_18 : decode method_4_code 18 = .ok (.iload 7, 2) := by decide +kernel
theorem d_method_4_20 : decode method_4_code 20 = .ok (.invokestatic 16, 3) := by decide +kernel
theorem d_method_4_23 : decode method_4_code 23 = .ok (.if_icmp .ne 7, 3) := by decide +kernel
theorem pn_0 : plainName "java/lang/String" = true := by first | (simp [plainName, overriddenIn]; done) | decide +kernel
theorem pn_1 : plainName "com/example/pactum/pactum/model/ResourceLoginToStringPinLaw" = true := by first | (simp [plainName, overriddenIn]; done) | decide +kernel
theorem pn_2 : plainName "java/lang/Record" = true := by first | (simp [plainName, overriddenIn]; done) | decide +kernel
theorem pn_3 : plainName "com/example/pactum/pactum/model/ResourceLogin" = true := by first | (simp [plainName, overriddenIn]; done) | decide +kernel
theorem pn_4 : plainName "java/lang/AbstractStringBuilder" = true := by first | (simp [plainName, overriddenIn]; done) | decide +kernel
theorem pn_5 : plainName "java/lang/StringBuilder" = true := by first | (simp [plainName, overriddenIn]; done) | decide +kernel
theorem pn_6 : plainName "java/util/Arrays" = true := by first | (simp [plainName, overriddenIn]; done) | decide +kernel
theorem pd_0 : parseMethodDescriptor "([CIILjava/lang/Void;)V" = some ⟨[(.array .char), .int, .int, (.object "java/lang/Void")], none⟩ := by decide +kernel
theorem pd_1 : parseMethodDescriptor "([C)V" = some ⟨[(.array .char)], none⟩ := by decide +kernel
theorem pd_2 : parseMethodDescriptor "()V" = some ⟨[], none⟩ := by decide +kernel
theorem pd_3 : parseMethodDescriptor "(I)V" = some ⟨[.int], none⟩ := by decide +kernel
theorem pd_4 : parseMethodDescriptor "()B" = some ⟨[], some .byte⟩ := by decide +kernel
theorem pd_5 : parseMethodDescriptor "(Ljava/lang/String;)V" = some ⟨[(.object "java/lang/String")], none⟩ := by decide +kernel
theorem pd_6 : parseMethodDescriptor "([BIB)V" = some ⟨[(.array .byte), .int, .byte], none⟩ := by decide +kernel
theorem pd_7 : parseMethodDescriptor "()I" = some ⟨[], some .int⟩ := by decide +kernel
theorem pd_8 : parseMethodDescriptor "(ILjava/lang/String;)V" = some ⟨[.int, (.object "java/lang/String")], none⟩ := by decide +kernel
theorem pd_9 : parseMethodDescriptor "(Ljava/lang/String;)Ljava/lang/AbstractStringBuilder;" = some ⟨[(.object "java/lang/String")], some (.object "java/lang/AbstractStringBuilder")⟩ := by decide +kernel
theorem pd_10 : parseMethodDescriptor "(II)V" = some ⟨[.int, .int], none⟩ := by decide +kernel
theorem pd_11 : parseMethodDescriptor "(II)I" = some ⟨[.int, .int], some .int⟩ := by decide +kernel
theorem pd_12 : parseMethodDescriptor "([BII)[B" = some ⟨[(.array .byte), .int, .int], some (.array .byte)⟩ := by decide +kernel
theorem pd_13 : parseMethodDescriptor "()[B" = some ⟨[], some (.array .byte)⟩ := by decide +kernel
theorem pd_14 : parseMethodDescriptor "()Z" = some ⟨[], some .boolean⟩ := by decide +kernel
theorem pd_15 : parseMethodDescriptor "(Ljava/lang/AbstractStringBuilder;Ljava/lang/Void;)V" = some ⟨[(.object "java/lang/AbstractStringBuilder"), (.object "java/lang/Void")], none⟩ := by decide +kernel
theorem pd_16 : parseMethodDescriptor "(Ljava/lang/StringBuilder;)V" = some ⟨[(.object "java/lang/StringBuilder")], none⟩ := by decide +kernel
theorem pd_17 : parseMethodDescriptor "(Ljava/lang/String;)Ljava/lang/StringBuilder;" = some ⟨[(.object "java/lang/String")], some (.object "java/lang/StringBuilder")⟩ := by decide +kernel
theorem pd_18 : parseMethodDescriptor "()Ljava/lang/String;" = some ⟨[], some (.object "java/lang/String")⟩ := by decide +kernel
theorem pd_19 : parseMethodDescriptor "(I)C" = some ⟨[.int], some .char⟩ := by decide +kernel
theorem pd_20 : parseMethodDescriptor "(IICCCC)C" = some ⟨[.int, .int, .char, .char, .char, .char], some .char⟩ := by decide +kernel
theorem pd_21 : parseMethodDescriptor "(ICC)Ljava/lang/String;" = some ⟨[.int, .char, .char], some (.object "java/lang/String")⟩ := by decide +kernel
theorem pd_22 : parseMethodDescriptor "(Ljava/lang/String;Ljava/lang/String;)V" = some ⟨[(.object "java/lang/String"), (.object "java/lang/String")], none⟩ := by decide +kernel
theorem pd_23 : parseMethodDescriptor "(Ljava/lang/String;IIICCCC)Z" = some ⟨[(.object "java/lang/String"), .int, .int, .int, .char, .char, .char, .char], some .boolean⟩ := by decide +kernel
theorem ef_cE4 (m : MethodId) (x : Addr) (b : Addr) : entryFrame m #[(.ref x), (.ref b), (.int (0 : Int32)), (.int (0 : Int32)), .null] 6 = mkF m 0 #[.val (.ref x), .val (.ref b), .val (.int (0 : Int32)), .val (.int (0 : Int32)), .val .null, .unset] [] := by first | (simp [entryFrame, mkF, argsToLocals, Value.category]; done) | rfl
theorem ef_cE1 (m : MethodId) (x : Addr) (b : Addr) : entryFrame m #[(.ref x), (.ref b)] 2 = mkF m 0 #[.val (.ref x), .val (.ref b)] [] := by first | (simp [entryFrame, mkF, argsToLocals, Value.category]; done) | rfl
theorem ef_cStr (m : MethodId) (n : Int32) (c0 : Int32) (c1 : Int32) : entryFrame m #[(.int n), (.int c0), (.int c1)] 3 = mkF m 0 #[.val (.int n), .val (.int c0), .val (.int c1)] [] := by first | (simp [entryFrame, mkF, argsToLocals, Value.category]; done) | rfl
theorem ef_cRec (m : MethodId) (b : Addr) : entryFrame m #[(.ref b)] 1 = mkF m 0 #[.val (.ref b)] [] := by first | (simp [entryFrame, mkF, argsToLocals, Value.category]; done) | rfl
theorem ef_cRI_r (m : MethodId) (b : Addr) (r : Addr) (u : Addr) : entryFrame m #[(.ref b), (.ref r), (.ref u)] 3 = mkF m 0 #[.val (.ref b), .val (.ref r), .val (.ref u)] [] := by first | (simp [entryFrame, mkF, argsToLocals, Value.category]; done) | rfl
theorem ef_cRI_n (m : MethodId) (b : Addr) (r : Addr) : entryFrame m #[(.ref b), (.ref r), .null] 3 = mkF m 0 #[.val (.ref b), .val (.ref r), .val .null] [] := by first | (simp [entryFrame, mkF, argsToLocals, Value.category]; done) | rfl
theorem ef_cABI (m : MethodId) (b : Addr) : entryFrame m #[(.ref b), (.int (16 : Int32))] 2 = mkF m 0 #[.val (.ref b), .val (.int (16 : Int32))] [] := by first | (simp [entryFrame, mkF, argsToLocals, Value.category]; done) | rfl
theorem ef_cSBI (m : MethodId) (b : Addr) : entryFrame m #[(.ref b)] 1 = mkF m 0 #[.val (.ref b)] [] := by first | (simp [entryFrame, mkF, argsToLocals, Value.category]; done) | rfl
theorem ef_cEn (m : MethodId) (b : Addr) (n : Int32) : entryFrame m #[(.ref b), (.int n)] 3 = mkF m 0 #[.val (.ref b), .val (.int n), .unset] [] := by first | (simp [entryFrame, mkF, argsToLocals, Value.category]; done) | rfl
theorem ef_cCo (m : MethodId) (g : Addr) : entryFrame m #[(.ref g)] 1 = mkF m 0 #[.val (.ref g)] [] := by first | (simp [entryFrame, mkF, argsToLocals, Value.category]; done) | rfl
theorem ef_cInf (m : MethodId) (b : Addr) (g : Addr) : entryFrame m #[(.ref b), (.ref g)] 2 = mkF m 0 #[.val (.ref b), .val (.ref g)] [] := by first | (simp [entryFrame, mkF, argsToLocals, Value.category]; done) | rfl
theorem ef_cGB (m : MethodId) (g : Addr) (t : Addr) (j_2 : Int32) : entryFrame m #[(.ref g), (.ref t), (.int j_2), (.int (0 : Int32))] 4 = mkF m 0 #[.val (.ref g), .val (.ref t), .val (.int j_2), .val (.int (0 : Int32))] [] := by first | (simp [entryFrame, mkF, argsToLocals, Value.category]; done) | rfl
theorem ef_cPS (m : MethodId) (b : Addr) (j_1 : Int32) (g : Addr) : entryFrame m #[(.ref b), (.int j_1), (.ref g)] 3 = mkF m 0 #[.val (.ref b), .val (.int j_1), .val (.ref g)] [] := by first | (simp [entryFrame, mkF, argsToLocals, Value.category]; done) | rfl
theorem ef_cAA (m : MethodId) (b : Addr) (g : Addr) : entryFrame m #[(.ref b), (.ref g)] 3 = mkF m 0 #[.val (.ref b), .val (.ref g), .unset] [] := by first | (simp [entryFrame, mkF, argsToLocals, Value.category]; done) | rfl
theorem ef_cAp (m : MethodId) (b : Addr) (g : Addr) : entryFrame m #[(.ref b), (.ref g)] 2 = mkF m 0 #[.val (.ref b), .val (.ref g)] [] := by first | (simp [entryFrame, mkF, argsToLocals, Value.category]; done) | rfl
theorem ef_cGV (m : MethodId) (b : Addr) : entryFrame m #[(.ref b)] 1 = mkF m 0 #[.val (.ref b)] [] := by first | (simp [entryFrame, mkF, argsToLocals, Value.category]; done) | rfl
theorem ef_cAL (m : MethodId) (b : Addr) : entryFrame m #[(.ref b)] 1 = mkF m 0 #[.val (.ref b)] [] := by first | (simp [entryFrame, mkF, argsToLocals, Value.category]; done) | rfl
theorem ef_cSL (m : MethodId) (b : Addr) : entryFrame m #[(.ref b)] 1 = mkF m 0 #[.val (.ref b)] [] := by first | (simp [entryFrame, mkF, argsToLocals, Value.category]; done) | rfl
theorem ef_cAIL (m : MethodId) (b : Addr) : entryFrame m #[(.ref b)] 1 = mkF m 0 #[.val (.ref b)] [] := by first | (simp [entryFrame, mkF, argsToLocals, Value.category]; done) | rfl
theorem ef_cCL (m : MethodId) (n : Int32) : entryFrame m #[(.int (0 : Int32)), (.int n)] 2 = mkF m 0 #[.val (.int (0 : Int32)), .val (.int n)] [] := by first | (simp [entryFrame, mkF, argsToLocals, Value.category]; done) | rfl
theorem ef_cMn (m : MethodId) (n : Int32) : entryFrame m #[(.int (16 : Int32)), (.int n)] 2 = mkF m 0 #[.val (.int (16 : Int32)), .val (.int n)] [] := by first | (simp [entryFrame, mkF, argsToLocals, Value.category]; done) | rfl
theorem ef_cCB (m : MethodId) (t : Addr) (j_2 : Int32) : entryFrame m #[(.ref t), (.int (0 : Int32)), (.int j_2)] 5 = mkF m 0 #[.val (.ref t), .val (.int (0 : Int32)), .val (.int j_2), .unset, .unset] [] := by first | (simp [entryFrame, mkF, argsToLocals, Value.category]; done) | rfl
theorem ef_cCR (m : MethodId) (t : Addr) (j_2 : Int32) : entryFrame m #[(.ref t), (.int (0 : Int32)), (.int j_2)] 3 = mkF m 0 #[.val (.ref t), .val (.int (0 : Int32)), .val (.int j_2)] [] := by first | (simp [entryFrame, mkF, argsToLocals, Value.category]; done) | rfl
theorem ef_cI2 (m : MethodId) (x : Addr) (b : Addr) : entryFrame m #[(.ref x), (.ref b), .null] 5 = mkF m 0 #[.val (.ref x), .val (.ref b), .val .null, .unset, .unset] [] := by first | (simp [entryFrame, mkF, argsToLocals, Value.category]; done) | rfl
theorem ef_cI1 (m : MethodId) (x : Addr) (b : Addr) : entryFrame m #[(.ref x), (.ref b)] 2 = mkF m 0 #[.val (.ref x), .val (.ref b)] [] := by first | (simp [entryFrame, mkF, argsToLocals, Value.category]; done) | rfl
theorem ef_cSBT (m : MethodId) (b : Addr) : entryFrame m #[(.ref b)] 1 = mkF m 0 #[.val (.ref b)] [] := by first | (simp [entryFrame, mkF, argsToLocals, Value.category]; done) | rfl
theorem ef_cTo_n (m : MethodId) (b : Addr) : entryFrame m #[(.ref b)] 1 = mkF m 0 #[.val (.ref b)] [] := by first | (simp [entryFrame, mkF, argsToLocals, Value.category]; done) | rfl
theorem ef_cTo_r (m : MethodId) (b : Addr) : entryFrame m #[(.ref b)] 1 = mkF m 0 #[.val (.ref b)] [] := by first | (simp [entryFrame, mkF, argsToLocals, Value.category]; done) | rfl
theorem ef_cEx (m : MethodId) (i : Int32) (r : Int32) (a1 : Int32) (a2 : Int32) (a3 : Int32) (a4 : Int32) : entryFrame m #[(.int i), (.int r), (.int a1), (.int a2), (.int a3), (.int a4)] 7 = mkF m 0 #[.val (.int i), .val (.int r), .val (.int a1), .val (.int a2), .val (.int a3), .val (.int a4), .unset] [] := by first | (simp [entryFrame, mkF, argsToLocals, Value.category]; done) | rfl
theorem ef_cAt (m : MethodId) (x : Addr) (i : Int32) (N : Int32) (r : Int32) (a1 : Int32) (a2 : Int32) (a3 : Int32) (a4 : Int32) : entryFrame m #[(.ref x), (.int i), (.int N), (.int r), (.int a1), (.int a2), (.int a3), (.int a4)] 8 = mkF m 0 #[.val (.ref x), .val (.int i), .val (.int N), .val (.int r), .val (.int a1), .val (.int a2), .val (.int a3), .val (.int a4)] [] := by first | (simp [entryFrame, mkF, argsToLocals, Value.category]; done) | rfl
theorem ef_cX (m : MethodId) (i1 : Int32) (i2 : Int32) : entryFrame m #[(.int i1), (.int i2)] maxLocals = mkF m 0 #[.val (.int i1), .val (.int i2), .unset, .unset, .unset, .unset, .unset, .unset, .unset, .unset, .unset, .unset, .unset] [] := by first | (simp [entryFrame, mkF, argsToLocals, Value.category, maxLocals]; done) | rfl
/-- the object at a is a Latin-1 String of the chars cs -/
def LS (Z : State) (h : Heap) (a : Addr) (cs : List Int32) : Prop := ∃ (t : Addr) (kb : ClassId), Exa Z h a "java/lang/String" ∧ Fld Z h a "java/lang/String" "coder" "B" (.int 0) ∧ Fld Z h a "java/lang/String" "value" "[B" (.ref t) ∧ Arv Z h t kb .byte (Int32.ofNat cs.length) ((cs.map StrChars.lo8).map Value.int) (.int 0) ∧ (∀ c ∈ cs, ¬ c < 0 ∧ ¬ (255 : Int32) < c) ∧ cs.length ≤ 4000
theorem LS.ext {Z : State} {h h' : Heap} {a : Addr} {cs : List Int32} (F : LS Z h a cs) (E : Ext h h') : LS Z h' a cs := by
  obtain ⟨t, kb, f1, f2, f3, f4, f5⟩ := F; exact ⟨t, kb, f1.ext E, f2.ext E, f3.ext E, f4.ext E, f5⟩
theorem LS.exa {Z : State} {h : Heap} {a : Addr} {cs : List Int32} (F : LS Z h a cs) : Exa Z h a "java/lang/String" := by obtain ⟨t, kb, f1, -⟩ := F; exact f1
theorem LS.lt {Z : State} {h : Heap} {a : Addr} {cs : List Int32} (F : LS Z h a cs) : a < h.size := F.exa.lt
theorem up255 {cs : List Int32} (h : ∀ c ∈ cs, ¬ c < 0 ∧ ¬ (255 : Int32) < c) : ∀ c ∈ cs, ¬ c < 0 ∧ ¬ (65535 : Int32) < c := fun c hc => ⟨(h c hc).1, fun q => (h c hc).2 (Int32.lt_trans (by decide) q)⟩
section Wide
variable {p : Program} {l : Launch} {e : Env} {R : Room} {m : MethodId} {args : Array Value} {below : List Frame} {meth : Method} {c : Code} {own : String} {bytes : ByteArray} {maxL : Nat} {Z s s' T : State} {EL : List (String × Nat)} {locs : List Loc} {cells slots : Nat} {h h' : Heap} {G : Outcome → State → Prop} {pc : Nat} {Ls : Array Slot} {S : List Value} {a0 : Array Value} {Q : Option Value → Heap → List Loc → Prop} {ck sk : Nat} {a : Addr} {sl : Nat} {v : Value} {ws : List Addr}
/-- the invariant of a walk that may load literals: the tables have gone on from s's, and the constants of EL say their texts -/
def WI (Z : State) (EL : List (String × Nat)) (s : State) : State → Heap → Prop := fun s' h => ∃ vm0 k0, s' = s.setVm vm0 ∧ s.Since vm0 k0 ∧ k0 ≤ h.size ∧ CHr Z EL s.vm s.heap vm0 h
theorem WI.ext (H : WI Z EL s s' h) (E : Ext h h') : WI Z EL s s' h' := by
  obtain ⟨vm0, k0, q1, q2, q3, q4⟩ := H; exact ⟨vm0, k0, q1, q2, Nat.le_trans q3 E.1, q4.trans (CHr.ext E q4.1)⟩
theorem WI.wr (H : WI Z EL s s' h) (S : Safe Z EL s'.vm h a) (W : Wr h h' a sl v) : WI Z EL s s' h' := by
  obtain ⟨vm0, k0, rfl, q2, q3, q4⟩ := H
  exact ⟨vm0, k0, rfl, q2, by rw [W.size]; exact q3, q4.trans (CHr.wr W S q4.1)⟩
theorem WI.keep (H : WI Z EL s s' h) (S : ∀ x ∈ ws, Safe Z EL s'.vm h x) (K : Keep h h' ws) : WI Z EL s s' h' := by
  obtain ⟨vm0, k0, rfl, q2, q3, q4⟩ := H
  exact ⟨vm0, k0, rfl, q2, Nat.le_trans q3 K.1, q4.trans (CHr.keep K S q4.1)⟩
theorem WI.chv (H : WI Z EL s s' h) : CHv Z EL s'.vm h := by obtain ⟨vm0, k0, rfl, q2, q3, q4⟩ := H; exact q4.1
theorem WI.safeExt (H : WI Z EL s s' h) (E : Ext h h') (S : Safe Z EL s'.vm h a) : Safe Z EL s'.vm h' a := S.ext E H.chv
theorem WI.safeNew (H : WI Z EL s s' h) (E : Ext h h') (q : a = h.size) : Safe Z EL s'.vm h' a := Safe.ext E H.chv (Safe.new (Nat.le_of_eq q.symm))
theorem WI.safeWr {b : Addr} (H : WI Z EL s s' h) (Sb : Safe Z EL s'.vm h b) (W : Wr h h' b sl v) (S : Safe Z EL s'.vm h a) : Safe Z EL s'.vm h' a := Safe.wr W Sb H.chv S
theorem WI.safeKeep (H : WI Z EL s s' h) (Sb : ∀ x ∈ ws, Safe Z EL s'.vm h x) (K : Keep h h' ws) (S : Safe Z EL s'.vm h a) : Safe Z EL s'.vm h' a := Safe.keep K Sb H.chv S
/-- what a walk that may load literals ends in -/
def WG (Z : State) (EL : List (String × Nat)) (s : State) (Q : Option Value → Heap → List Loc → Prop) (ck sk : Nat) : Outcome → State → Prop := fun o U' => ∃ v L, o = .returned v ∧ Q v U'.heap L ∧ CHr Z EL s.vm s.heap U'.vm U'.heap ∧ ReturnedEndW s o U' L ck sk
theorem r_genw (D : Wk p l e R m args below meth c own bytes maxL Z (WI Z EL s) s' T locs cells slots h) (hEW : EW Z a0 EL) {v : Option Value} (hv : meth.sig.returnType = none → v = none) (hlk : meth.locks = false) (hst : ∀ fs, (∀ (f : JFrame) (acts : List Action), f.method = m → f.locked = none → f.entered = [] → (doReturn e (T.setTop f) acts v).1 = T.setFrames fs) → Steps p.tables e below (T.setTop (mkF m pc Ls S)) (T.setFrames fs)) (hQ : Q v h locs) (hc : cells ≤ ck) (hs : slots ≤ sk) : Go p e below (WG Z EL s Q ck sk) (T.setTop (mkF m pc Ls S)) := by
  obtain ⟨vm0, k0, rfl, q2, q3, q4⟩ := D.iv
  obtain ⟨fs, hr, hrun, hended, hW⟩ := D.st.leaveW q2 (by rw [D.eq]; exact q3) (v := v) hv hlk
  refine ⟨_, _, hst fs hr, hrun, hended, _, _, rfl, ?_, ?_, hW.1, hW.2.1, hW.2.2.1, hW.2.2.2.mono hc hs⟩
  · show Q v T.heap locs
    rw [D.eq]; exact hQ
  · show CHr Z EL s.vm s.heap T.vm T.heap
    rw [D.eq]; exact q4.trans (CHv.at D.st D.wm hEW q4.1)
theorem r_Iw (D : Wk p l e R m args below meth c own bytes maxL Z (WI Z EL s) s' T locs cells slots h) (hEW : EW Z a0 EL) {z : Int32} (hret : meth.sig.returnType = some .int) (hlk : meth.locks = false) (hd : decode bytes pc = .ok (.ireturn, 1)) (hQ : Q (some (.int z)) h locs) (hc : cells ≤ ck) (hs : slots ≤ sk) : Go p e below (WG Z EL s Q ck sk) (T.setTop (mkF m pc Ls (.int z :: S))) :=
  r_genw D hEW (fun h => by rw [hret] at h; cases h) hlk (fun fs hr => retOut D.st D.ex hret rfl (Or.inl ⟨rfl, Or.inl rfl, _, rfl⟩) (hb D.cb hd) hr) hQ hc hs
theorem r_Nw (D : Wk p l e R m args below meth c own bytes maxL Z (WI Z EL s) s' T locs cells slots h) (hEW : EW Z a0 EL) {t : FieldType} {z : Int32} (hret : meth.sig.returnType = some t) (ht : t = .boolean ∨ t = .byte ∨ t = .char ∨ t = .short) (hlk : meth.locks = false) (hd : decode bytes pc = .ok (.ireturn, 1)) (hQ : Q (some (.int (nar t z))) h locs) (hc : cells ≤ ck) (hs : slots ≤ sk) : Go p e below (WG Z EL s Q ck sk) (T.setTop (mkF m pc Ls (.int z :: S))) :=
  r_genw D hEW (fun h => by rw [hret] at h; cases h) hlk (fun fs hr => retN D.st D.ex hret ht (hb D.cb hd) hr) hQ hc hs
theorem r_Aw (D : Wk p l e R m args below meth c own bytes maxL Z (WI Z EL s) s' T locs cells slots h) (hEW : EW Z a0 EL) {t : FieldType} {w : Value} (hret : meth.sig.returnType = some t) (ht : t.isReference = true) (hw : w.isRef = true) (hlk : meth.locks = false) (hd : decode bytes pc = .ok (.areturn, 1)) (hQ : Q (some w) h locs) (hc : cells ≤ ck) (hs : slots ≤ sk) : Go p e below (WG Z EL s Q ck sk) (T.setTop (mkF m pc Ls (w :: S))) :=
  r_genw D hEW (fun h => by rw [hret] at h; cases h) hlk (fun fs hr => retOut D.st D.ex hret (by cases t <;> first | (cases ht; done) | rfl) (Or.inr (Or.inr (Or.inr (Or.inr ⟨rfl, ht, hw⟩)))) (hb D.cb hd) hr) hQ hc hs
theorem r_Vw (D : Wk p l e R m args below meth c own bytes maxL Z (WI Z EL s) s' T locs cells slots h) (hEW : EW Z a0 EL) (hret : meth.sig.returnType = none) (hlk : meth.locks = false) (hd : decode bytes pc = .ok (.return_, 1)) (hQ : Q none h locs) (hc : cells ≤ ck) (hs : slots ≤ sk) : Go p e below (WG Z EL s Q ck sk) (T.setTop (mkF m pc Ls [])) :=
  r_genw D hEW (fun _ => rfl) hlk (fun fs hr => D.st.returnOut D.ex hret (hb D.cb hd) hr) hQ hc hs
/-- a contract of a body that may load literals -/
abbrev ConW (l : Launch) (y : MethodName) (bytes : ByteArray) (maxL : Nat) (ret : Option FieldType) (ws : List Jvm.Cond) (rm : Room) (Z : State) (EL : List (String × Nat)) (as' : Array Value) (h0 : Heap) (Q : Option Value → Heap → List Loc → Prop) (ck sk : Nat) : Prop :=
  MetFree l y (head1 (Jvm.Cond.code y bytes maxL ret :: ws) rm) (fun a U => a = as' ∧ Z.Warmed39 U.vm ∧ U.heap = h0 ∧ CHv Z EL U.vm h0) (fun _ _ _ _ _ => True) (fun _ U o U' => ∃ v L, o = .returned v ∧ Q v U'.heap L ∧ CHr Z EL U.vm U.heap U'.vm U'.heap ∧ ReturnedEndW U o U' L ck sk)
theorem enterW {y : MethodName} {ret : Option FieldType} {ws : List Jvm.Cond} {rm : Room} {as' : Array Value} {h0 : Heap} (hpl : plainFor y = true)
    (k : ∀ p e s m below meth c s₁, meth.name = y.name → meth.sig.returnType = ret → meth.locks = false → Wk p l e rm m as' below meth c y.cls bytes maxL Z (WI Z EL s) s s₁ [] 0 0 h0 → Go p e below (WG Z EL s Q ck sk) (s₁.setTop (entryFrame m as' maxL))) :
    ConW l y bytes maxL ret ws rm Z EL as' h0 Q ck sk := by
  refine MetFree.of_bodySF hpl hisR ?_
  intro p e s m args below meth c s₁ Bd hml0 hP hK
  obtain ⟨rfl, hZ, hh, hC⟩ := hP
  have X0 : Stand p l e rm s m _ below meth c s₁ [] 0 0 := Stand.of_body Bd
  exact k p e s m below meth c s₁ (name_of_methodNamed Bd.named Bd.method).1 Bd.returns Bd.notSynchronized ⟨X0, by rw [← hh, Bd.state]; rfl, hZ, findClass_of_methodNamed Bd.named, Bd.exec, Bd.bytes, hml0, s.vm, s.heap.size, (State.setVm_self s).symm, (State.WarmedH.refl s).since _, by rw [hh]; exact Nat.le_refl _, by rw [hh]; exact CHr.refl hC⟩
theorem g_callSW (D : Wk p l e R m args below meth c own bytes maxL Z (WI Z EL s) s' T locs cells slots h) (pc' : Nat) {index : Nat} {y : MethodName} {bz : ByteArray} {mL : Nat} {ret' : Option FieldType} {rm : Room} {as' : Array Value} (hEW : EW Z a0 EL) (w1 : (Cond.methodLink own index y).before a0 Z = true) (w2 : (Cond.static y).before a0 Z = true) (w3 : (Cond.initialized y.cls).before a0 Z = true) (w4 : (Cond.code y bz mL ret').before a0 Z = true) (hy : y.cls ≠ "java/lang/invoke/MethodHandle" ∧ y.cls ≠ "java/lang/invoke/VarHandle")
    (hM : ConW l y bz mL ret' [] rm Z EL as' h Q rm.cells rm.slots) (hsz : Ls.size = maxL) (argsL : List Value) (has : argsL.toArray = as') (hlen : ∀ sig, parseMethodDescriptor y.desc = some sig → argsL.length = sig.parameters.length) {S0 : List Value} (hst : S0 = argsL.reverse ++ S) (W : Nat) (hW : (S.map fun v => v.category).sum ≤ W) (hf : rm.frames + 1 ≤ R.frames) (hlo : W + (mL + 11) + rm.locals ≤ R.locals) (hc : cells + rm.cells ≤ R.cells) (hl : slots + rm.slots ≤ R.slots) (hd : decode bytes pc = .ok (.invokestatic index, 3)) (hp : pc + 3 = pc')
    (hr : ∀ v s'' T' h' L, Q v h' L → (∀ x, x < h.size → Safe Z EL s'.vm h x → Safe Z EL s''.vm h' x) → Wk p l e R m args below meth c own bytes maxL Z (WI Z EL s) s'' T' (locs ++ L) (cells + rm.cells) (slots + rm.slots) h' → Go p e below G (T'.setTop (mkF m pc' Ls (v.toList ++ S)))) : Go p e below G (T.setTop (mkF m pc Ls S0)) := by
  subst hp hst
  obtain ⟨vm0, k0, rfl, q2, q3, q4⟩ := D.iv
  obtain ⟨v, _, ⟨T', L', k', n'⟩, -, X', hS', hg, ⟨L, hQ, l', y', z', hR⟩, st⟩ := callSS D.st D.ex D.ow (mvT D.wm w1) (mvT D.wm w2) (mvT D.wm w3) (mvT D.wm w4) hy (backOfSH (s := s) (W := W) hM D.wm w4 w3 hf hlo hEW q4.1) (g := mkF m pc Ls (argsL.reverse ++ S)) rfl (by rw [D.ml]; exact hsz) (argsL := argsL) (rest := S) hlen rfl (by simpa using hW) (hb D.cb hd) (fun _ _ => ⟨has, D.eq, hc, hl⟩)
  dsimp only at X' l' y' z' st hQ hS' hg hR
  subst l' y' z'
  obtain ⟨X2, S2, Z2, O2⟩ := rebS q2 (n1 := T.heap.size) (by rw [D.eq]; exact q3) X' hS' hg D.wm D.ow
  exact Go.mono (fun t k => st.trans k) (hr v (s.setVm T'.vm) T' T'.heap L hQ (fun x hx Sx => hR.safe hx Sx) ⟨X2, rfl, Z2, O2, D.ex, D.cb, D.ml, T'.vm, _, rfl, S2, Nat.le_refl _, q4.trans hR⟩)
theorem g_callNW (D : Wk p l e R m args below meth c own bytes maxL Z (WI Z EL s) s' T locs cells slots h) (pc' : Nat) {index : Nat} {y : MethodName} {bz : ByteArray} {mL : Nat} {rm : Room} {as' : Array Value} (hEW : EW Z a0 EL) (hy1 : y.name = "<init>") (w1 : (Cond.methodLink own index y).before a0 Z = true) (w2 : (Cond.instanceMethod y).before a0 Z = true) (w3 : (Cond.initialized y.cls).before a0 Z = true) (w4 : (Cond.code y bz mL none).before a0 Z = true) (hy : y.cls ≠ "java/lang/invoke/MethodHandle" ∧ y.cls ≠ "java/lang/invoke/VarHandle")
    (hM : ConW l y bz mL none [] rm Z EL as' h Q rm.cells rm.slots) {b : Addr} (hsz : Ls.size = maxL) (argsL : List Value) (has : (.ref b :: argsL).toArray = as') (hlen : ∀ sig, parseMethodDescriptor y.desc = some sig → argsL.length = sig.parameters.length) {S0 : List Value} (hst : S0 = argsL.reverse ++ .ref b :: S) (W : Nat) (hW : (S.map fun v => v.category).sum ≤ W) (hf : rm.frames + 1 ≤ R.frames) (hlo : W + (mL + 11) + rm.locals ≤ R.locals) (hc : cells + rm.cells ≤ R.cells) (hl : slots + rm.slots ≤ R.slots) (hd : decode bytes pc = .ok (.invokespecial index, 3)) (hp : pc + 3 = pc')
    (hr : ∀ v s'' T' h' L, Q v h' L → (∀ x, x < h.size → Safe Z EL s'.vm h x → Safe Z EL s''.vm h' x) → Wk p l e R m args below meth c own bytes maxL Z (WI Z EL s) s'' T' (locs ++ L) (cells + rm.cells) (slots + rm.slots) h' → Go p e below G (T'.setTop (mkF m pc' Ls (v.toList ++ S)))) : Go p e below G (T.setTop (mkF m pc Ls S0)) := by
  subst hp hst
  obtain ⟨vm0, k0, rfl, q2, q3, q4⟩ := D.iv
  obtain ⟨v, _, ⟨T', L', k', n'⟩, -, X', hS', hg, ⟨L, hQ, l', y', z', hR⟩, st⟩ := D.st.specialBackS D.ex (y := y) hy1 D.ow (mvT D.wm w1) (mvT D.wm w2) (mvT D.wm w4) hy (backOfSH (s := s) (W := W) hM D.wm w4 w3 hf hlo hEW q4.1) (g := mkF m pc Ls (argsL.reverse ++ .ref b :: S)) rfl (by rw [D.ml]; exact hsz) (Steps.refl _) (a := b) (argsL := argsL) (rest := S) hlen rfl (by simpa using hW) (hb D.cb hd) (fun _ _ => ⟨has, D.eq, hc, hl⟩)
  dsimp only at X' l' y' z' st hQ hS' hg hR
  subst l' y' z'
  obtain ⟨X2, S2, Z2, O2⟩ := rebS q2 (n1 := T.heap.size) (by rw [D.eq]; exact q3) X' hS' hg D.wm D.ow
  exact Go.mono (fun t k => st.trans k) (hr v (s.setVm T'.vm) T' T'.heap L hQ (fun x hx Sx => hR.safe hx Sx) ⟨X2, rfl, Z2, O2, D.ex, D.cb, D.ml, T'.vm, _, rfl, S2, Nat.le_refl _, q4.trans hR⟩)
theorem g_callVW (D : Wk p l e R m args below meth c own bytes maxL Z (WI Z EL s) s' T locs cells slots h) (pc' : Nat) {index : Nat} {y z : MethodName} {C : String} {bz : ByteArray} {mL : Nat} {ret' : Option FieldType} {rm : Room} {as' : Array Value} (hEW : EW Z a0 EL) (w1 : (Cond.methodLink own index y).before a0 Z = true) (w2 : (Cond.declares y).before a0 Z = true) (hnf : NotFace s' y) (w6 : (Cond.selects C y z).before a0 Z = true) (w7 : (Cond.instanceMethod z).before a0 Z = true) (w3 : (Cond.initialized z.cls).before a0 Z = true) (w4 : (Cond.code z bz mL ret').before a0 Z = true) (hy : y.cls ≠ "java/lang/invoke/MethodHandle" ∧ y.cls ≠ "java/lang/invoke/VarHandle")
    (hM : ConW l z bz mL ret' [] rm Z EL as' h Q rm.cells rm.slots) {b : Addr} (E : Exa Z h b C) (hsz : Ls.size = maxL) (argsL : List Value) (has : (.ref b :: argsL).toArray = as') (hlen : ∀ sig, parseMethodDescriptor y.desc = some sig → argsL.length = sig.parameters.length) {S0 : List Value} (hst : S0 = argsL.reverse ++ .ref b :: S) (W : Nat) (hW : (S.map fun v => v.category).sum ≤ W) (hf : rm.frames + 1 ≤ R.frames) (hlo : W + (mL + 11) + rm.locals ≤ R.locals) (hc : cells + rm.cells ≤ R.cells) (hl : slots + rm.slots ≤ R.slots) (hd : decode bytes pc = .ok (.invokevirtual index, 3)) (hp : pc + 3 = pc')
    (hr : ∀ v s'' T' h' L, Q v h' L → (∀ x, x < h.size → Safe Z EL s'.vm h x → Safe Z EL s''.vm h' x) → Wk p l e R m args below meth c own bytes maxL Z (WI Z EL s) s'' T' (locs ++ L) (cells + rm.cells) (slots + rm.slots) h' → Go p e below G (T'.setTop (mkF m pc' Ls (v.toList ++ S)))) : Go p e below G (T.setTop (mkF m pc Ls S0)) := by
  subst hp hst
  obtain ⟨cq, kq, qa, qb, qc⟩ := isOf D.wm D.eq E
  obtain ⟨vm0, k0, rfl, q2, q3, q4⟩ := D.iv
  obtain ⟨v, _, ⟨T', L', k', n'⟩, -, X', hS', hg, ⟨L, hQ, l', y', z', hR⟩, st⟩ := D.st.virtualBackS D.ex (y := y) (z := z) D.ow (mvT D.wm w1) (mvT D.wm w2) hnf (mvT D.wm w6) (mvT D.wm w7) hy (backOfSH (s := s) (W := W) hM D.wm w4 w3 hf hlo hEW q4.1) qa qc (g := mkF m pc Ls (argsL.reverse ++ .ref b :: S)) rfl (by rw [D.ml]; exact hsz) (Steps.refl _) (argsL := argsL) (rest := S) hlen rfl (by simpa using hW) (hb D.cb hd) (fun _ _ => ⟨has, D.eq, hc, hl⟩)
  dsimp only at X' l' y' z' st hQ hS' hg hR
  subst l' y' z'
  obtain ⟨X2, S2, Z2, O2⟩ := rebS q2 (n1 := T.heap.size) (by rw [D.eq]; exact q3) X' hS' hg D.wm D.ow
  exact Go.mono (fun t k => st.trans k) (hr v (s.setVm T'.vm) T' T'.heap L hQ (fun x hx Sx => hR.safe hx Sx) ⟨X2, rfl, Z2, O2, D.ex, D.cb, D.ml, T'.vm, _, rfl, S2, Nat.le_refl _, q4.trans hR⟩)
theorem g_ldcS (D : Wk p l e R m args below meth c own bytes maxL Z (WI Z EL s) s' T locs cells slots h) (pc' : Nat) {text : String} {index : Nat} (hEW : EW Z a0 EL) (w : (Cond.stringLink own index text).before a0 Z = true) (wS : ∀ a ∈ Bundle.stringAtoms, a.before a0 Z = true) (hmem : (own, index) ∈ EL) (cs : List Int32) (n : Nat) (ht : (∀ c ∈ text.toList, c.toNat < 256) ∧ text.toList.map (fun c => Value.int (Jvm.Lit.byteI c.toNat.toUInt16)) = (cs.map StrChars.lo8).map Value.int) (hcs : (∀ c ∈ cs, ¬ c < 0 ∧ ¬ (255 : Int32) < c) ∧ cs.length ≤ 4000) (hn : 4 * text.toList.length ≤ n) (hbig : n ≤ 536870912) (hd : decode bytes pc = .ok (.ldc index, 2)) (hc : cells + 2 ≤ R.cells) (hl : slots + (n + 4) ≤ R.slots) (hp : pc + 2 = pc')
    (hr : ∀ s'' T' h' a t kb, Ext h h' → Exa Z h' a "java/lang/String" → Fld Z h' a "java/lang/String" "coder" "B" (.int 0) → Fld Z h' a "java/lang/String" "value" "[B" (.ref t) → Arv Z h' t kb .byte (Int32.ofNat cs.length) ((cs.map StrChars.lo8).map Value.int) (.int 0) → (∀ x, Safe Z EL s''.vm h' x → x ≠ a ∧ x ≠ t) → (∀ x, x < h.size → Safe Z EL s'.vm h x → Safe Z EL s''.vm h' x) → Wk p l e R m args below meth c own bytes maxL Z (WI Z EL s) s'' T' locs (cells + 2) (slots + (n + 4)) h' → Go p e below G (T'.setTop (mkF m pc' Ls (.ref a :: S)))) : Go p e below G (T.setTop (mkF m pc Ls S)) := by
  subst hp
  obtain ⟨vm0, k0, rfl, q2, q3, q4⟩ := D.iv
  have hz : ¬ (Int32.ofNat cs.length) < 0 := by
    have q : (Int32.ofNat cs.length).toInt = cs.length := Int32.toInt_ofNat_small (by omega)
    rw [Int32.lt_iff_toInt_lt, q, show (0 : Int32).toInt = 0 from rfl]; omega
  have hz2 : (Int32.ofNat cs.length).toNatClampNeg = ((cs.map StrChars.lo8).map Value.int).length := by
    have q : (Int32.ofNat cs.length).toInt = cs.length := Int32.toInt_ofNat_small (by omega)
    simp only [Int32.toNatClampNeg, q, List.length_map]; omega
  obtain ⟨a, T', h', k1, b, k, X', e', E', S', hk', Z', O', x1, x2, x3, x4, -, -, hR, -, hsf, st⟩ := ldcCH (s := s) D.st D.ex D.wm D.ow w wS D.eq q2 q3 hEW hmem q4.1 ht hz hz2 (g := mkF m pc Ls S) rfl (hb D.cb hd) hn hbig hc hl
  exact Go.mono st (hr (s.setVm T'.vm) T' h' a b k E' x1 x2 x3 x4 hsf (fun x hx Sx => hR.safe hx Sx) ⟨X', e', Z', O', D.ex, D.cb, D.ml, T'.vm, k1, rfl, S', hk', q4.trans hR⟩)
/-- the same, where the contract speaks of the tables at the end too -/
def WGv (Z : State) (EL : List (String × Nat)) (s : State) (Q : Option Value → Vm → Heap → List Loc → Prop) (ck sk : Nat) : Outcome → State → Prop := fun o U' => ∃ v L, o = .returned v ∧ Q v U'.vm U'.heap L ∧ CHr Z EL s.vm s.heap U'.vm U'.heap ∧ ReturnedEndW s o U' L ck sk
abbrev ConV (l : Launch) (y : MethodName) (bytes : ByteArray) (maxL : Nat) (ret : Option FieldType) (ws : List Jvm.Cond) (rm : Room) (Z : State) (EL : List (String × Nat)) (as' : Array Value) (h0 : Heap) (Q : Option Value → Vm → Heap → List Loc → Prop) (ck sk : Nat) : Prop :=
  MetFree l y (head1 (Jvm.Cond.code y bytes maxL ret :: ws) rm) (fun a U => a = as' ∧ Z.Warmed39 U.vm ∧ U.heap = h0 ∧ CHv Z EL U.vm h0) (fun _ _ _ _ _ => True) (fun _ U o U' => ∃ v L, o = .returned v ∧ Q v U'.vm U'.heap L ∧ CHr Z EL U.vm U.heap U'.vm U'.heap ∧ ReturnedEndW U o U' L ck sk)
theorem enterV {y : MethodName} {ret : Option FieldType} {ws : List Jvm.Cond} {rm : Room} {as' : Array Value} {h0 : Heap} {Qv : Option Value → Vm → Heap → List Loc → Prop} (hpl : plainFor y = true)
    (k : ∀ p e s m below meth c s₁, meth.name = y.name → meth.sig.returnType = ret → meth.locks = false → Wk p l e rm m as' below meth c y.cls bytes maxL Z (WI Z EL s) s s₁ [] 0 0 h0 → Go p e below (WGv Z EL s Qv ck sk) (s₁.setTop (entryFrame m as' maxL))) :
    ConV l y bytes maxL ret ws rm Z EL as' h0 Qv ck sk := by
  refine MetFree.of_bodySF hpl hisR ?_
  intro p e s m args below meth c s₁ Bd hml0 hP hK
  obtain ⟨rfl, hZ, hh, hC⟩ := hP
  have X0 : Stand p l e rm s m _ below meth c s₁ [] 0 0 := Stand.of_body Bd
  exact k p e s m below meth c s₁ (name_of_methodNamed Bd.named Bd.method).1 Bd.returns Bd.notSynchronized ⟨X0, by rw [← hh, Bd.state]; rfl, hZ, findClass_of_methodNamed Bd.named, Bd.exec, Bd.bytes, hml0, s.vm, s.heap.size, (State.setVm_self s).symm, (State.WarmedH.refl s).since _, by rw [hh]; exact Nat.le_refl _, by rw [hh]; exact CHr.refl hC⟩
theorem r_Av (D : Wk p l e R m args below meth c own bytes maxL Z (WI Z EL s) s' T locs cells slots h) (hEW : EW Z a0 EL) {t : FieldType} {w : Value} {Qv : Option Value → Vm → Heap → List Loc → Prop} (hret : meth.sig.returnType = some t) (ht : t.isReference = true) (hw : w.isRef = true) (hlk : meth.locks = false) (hd : decode bytes pc = .ok (.areturn, 1)) (hQ : ∀ vm1, (∀ x, x < h.size → Safe Z EL s'.vm h x → Safe Z EL vm1 h x) → Qv (some w) vm1 h locs) (hc : cells ≤ ck) (hs : slots ≤ sk) : Go p e below (WGv Z EL s Qv ck sk) (T.setTop (mkF m pc Ls (w :: S))) := by
  obtain ⟨vm0, k0, rfl, q2, q3, q4⟩ := D.iv
  obtain ⟨fs, hr, hrun, hended, hW⟩ := D.st.leaveW q2 (by rw [D.eq]; exact q3) (v := some w) (fun h => by rw [hret] at h; cases h) hlk
  have hR := CHv.at D.st D.wm hEW q4.1
  refine ⟨_, _, retOut D.st D.ex hret (by cases t <;> first | (cases ht; done) | rfl) (Or.inr (Or.inr (Or.inr (Or.inr ⟨rfl, ht, hw⟩)))) (hb D.cb hd) hr, hrun, hended, _, _, rfl, ?_, ?_, hW.1, hW.2.1, hW.2.2.1, hW.2.2.2.mono hc hs⟩
  · show Qv (some w) T.vm T.heap locs
    rw [D.eq]; exact hQ _ fun x hx Sx => hR.safe hx Sx
  · show CHr Z EL s.vm s.heap T.vm T.heap
    rw [D.eq]; exact q4.trans hR
theorem backOfSHv {vm0 : Vm} {y : MethodName} {ret : Option FieldType} {rm : Room} {len W : Nat} {as' : Array Value} {Qv : Option Value → Vm → Heap → List Loc → Prop} (hM : ConV l y bytes maxL ret [] rm Z EL as' h Qv rm.cells rm.slots)
    (hZ : Z.Warmed39 vm0) (wc : (Cond.code y bytes maxL ret).before a0 Z = true) (wz : (Cond.initialized y.cls).before a0 Z = true) (hf : rm.frames + 1 ≤ R.frames) (hl : W + (maxL + 11) + rm.locals ≤ R.locals) (hEL : EW Z a0 EL) (H : CHv Z EL vm0 h) :
    BackS l R p e below (s.setVm vm0) args y len W (fun A a => a = as' ∧ A.U.heap = h ∧ A.cells + rm.cells ≤ R.cells ∧ A.slots + rm.slots ≤ R.slots)
      (fun A _ v B => ∃ L, Qv v B.U.vm B.U.heap L ∧ B.locs = A.locs ++ L ∧ B.cells = A.cells + rm.cells ∧ B.slots = A.slots + rm.slots ∧ CHr Z EL vm0 h B.U.vm B.U.heap) :=
  BackS.of_freeW (bytes := bytes) (maxL := maxL) (ret := ret) (E := fun _ first o t L k n => k = rm.cells ∧ n = rm.slots ∧ (∃ v, o = .returned v ∧ Qv v t.vm t.heap L) ∧ CHr Z EL first.vm first.heap t.vm t.heap) hM hf hl
    (fun m meth c A a Y hp => have hU : Z.Warmed39 A.U.vm := wtrans (s := s.setVm vm0) hZ Y.warmed
      ⟨by show (Cond.and _ .tt).before a A.U = true; rw [Cond.before_and, mv hU wc]; rfl, mv hU wc, mv hU wz, hp.2.2.1, hp.2.2.2⟩)
    (fun m meth c A a g mk Y hp => ⟨hp.1, wtrans (s := s.setVm vm0) hZ Y.warmed, hp.2.1, (CHv.at Y hZ hEL H).1⟩) (fun _ _ _ _ _ _ _ _ _ => trivial)
    (fun _ _ _ _ ⟨v, L, h1, h2, h3, h4⟩ => ⟨L, _, _, h4, rfl, rfl, ⟨v, h1, h2⟩, h3⟩)
    (fun m meth c A a g mk v t L k n Y hp _ _ ⟨e1, e2, ⟨v', e3, e4⟩, e5⟩ => by
      cases e3; subst e1 e2
      refine ⟨L, e4, rfl, rfl, rfl, (CHv.at Y hZ hEL H).trans ?_⟩
      rw [← hp.2.1]; exact e5)
theorem g_callSV (D : Wk p l e R m args below meth c own bytes maxL Z (WI Z EL s) s' T locs cells slots h) (pc' : Nat) {index : Nat} {y : MethodName} {bz : ByteArray} {mL : Nat} {ret' : Option FieldType} {rm : Room} {as' : Array Value} {Qv : Option Value → Vm → Heap → List Loc → Prop} (hEW : EW Z a0 EL) (w1 : (Cond.methodLink own index y).before a0 Z = true) (w2 : (Cond.static y).before a0 Z = true) (w3 : (Cond.initialized y.cls).before a0 Z = true) (w4 : (Cond.code y bz mL ret').before a0 Z = true) (hy : y.cls ≠ "java/lang/invoke/MethodHandle" ∧ y.cls ≠ "java/lang/invoke/VarHandle")
    (hM : ConV l y bz mL ret' [] rm Z EL as' h Qv rm.cells rm.slots) (hsz : Ls.size = maxL) (argsL : List Value) (has : argsL.toArray = as') (hlen : ∀ sig, parseMethodDescriptor y.desc = some sig → argsL.length = sig.parameters.length) {S0 : List Value} (hst : S0 = argsL.reverse ++ S) (W : Nat) (hW : (S.map fun v => v.category).sum ≤ W) (hf : rm.frames + 1 ≤ R.frames) (hlo : W + (mL + 11) + rm.locals ≤ R.locals) (hc : cells + rm.cells ≤ R.cells) (hl : slots + rm.slots ≤ R.slots) (hd : decode bytes pc = .ok (.invokestatic index, 3)) (hp : pc + 3 = pc')
    (hr : ∀ v s'' T' h' L, Qv v s''.vm h' L → (∀ x, x < h.size → Safe Z EL s'.vm h x → Safe Z EL s''.vm h' x) → Wk p l e R m args below meth c own bytes maxL Z (WI Z EL s) s'' T' (locs ++ L) (cells + rm.cells) (slots + rm.slots) h' → Go p e below G (T'.setTop (mkF m pc' Ls (v.toList ++ S)))) : Go p e below G (T.setTop (mkF m pc Ls S0)) := by
  subst hp hst
  obtain ⟨vm0, k0, rfl, q2, q3, q4⟩ := D.iv
  obtain ⟨v, _, ⟨T', L', k', n'⟩, -, X', hS', hg, ⟨L, hQ, l', y', z', hR⟩, st⟩ := callSS D.st D.ex D.ow (mvT D.wm w1) (mvT D.wm w2) (mvT D.wm w3) (mvT D.wm w4) hy (backOfSHv (s := s) (W := W) hM D.wm w4 w3 hf hlo hEW q4.1) (g := mkF m pc Ls (argsL.reverse ++ S)) rfl (by rw [D.ml]; exact hsz) (argsL := argsL) (rest := S) hlen rfl (by simpa using hW) (hb D.cb hd) (fun _ _ => ⟨has, D.eq, hc, hl⟩)
  dsimp only at X' l' y' z' st hQ hS' hg hR
  subst l' y' z'
  obtain ⟨X2, S2, Z2, O2⟩ := rebS q2 (n1 := T.heap.size) (by rw [D.eq]; exact q3) X' hS' hg D.wm D.ow
  exact Go.mono (fun t k => st.trans k) (hr v (s.setVm T'.vm) T' T'.heap L hQ (fun x hx Sx => hR.safe hx Sx) ⟨X2, rfl, Z2, O2, D.ex, D.cb, D.ml, T'.vm, _, rfl, S2, Nat.le_refl _, q4.trans hR⟩)
end Wide
theorem safe_null {Z : State} {EL : List (String × Nat)} {vm : Vm} {h : Heap} {x : Addr} (hal : Z.vm.Alike vm) (E : Exa Z h x "java/lang/String") (V : Fld Z h x "java/lang/String" "value" "[B" .null) : Safe Z EL vm h x := fun B => by
  obtain ⟨p, -, u, a, -, q, -, F, rfl | rfl⟩ := B
  · obtain ⟨cell, cf, k, i, f, h1, h2, -, -, -, -, h7⟩ := V
    cases (show h[q.sa]? = some q.sC from F.ha).symm.trans h1
    obtain ⟨cS, ⟨⟨-, -, -, ⟨c1, k1, i1, f1, -⟩, -, -, -, v1, -⟩, -⟩, -⟩ := F
    obtain ⟨k3, e3, -⟩ := State.fieldFound?_setVm (s := Z) hal h2
    have e4 := (show (Wst Z vm h).fieldFound? _ _ _ = _ from e3).symm.trans f1
    simp only [Option.some.injEq, Prod.mk.injEq] at e4
    rw [e4.2.2.2, v1] at h7
    cases h7
  · obtain ⟨cell, k, e1, e2, e3, -, -⟩ := E
    cases (show h[q.sd]? = some q.SA from F.hd).symm.trans e1
    obtain ⟨cS, -, -, f, -⟩ := F
    have f' : vm.findClass "[B" = some q.SA.cls := f
    rw [hal.findClass] at f'
    obtain ⟨k1, q1, q2⟩ := Vm.findClass_spec f'
    obtain ⟨k2, q3, q4⟩ := Vm.findClass_spec e2
    cases q1.symm.trans q3
    exact absurd (q2.symm.trans q4) (by decide)
theorem Keep.toExt {h h' : Heap} (K : Keep h h' []) : Ext h h' := ⟨K.1, fun a c q => K.2.1 a c q nin0⟩
theorem Ext.trans' {h h1 h2 : Heap} (E : Ext h h1) (F : Ext h1 h2) : Ext h h2 := ⟨Nat.le_trans E.1 F.1, fun a c q => F.2 a c (E.2 a c q)⟩
/-- a char below 256 -/
abbrev B8 (c : Int32) : Prop := ¬ c < 0 ∧ ¬ (255 : Int32) < c
theorem b8_nil : ∀ c ∈ ([] : List Int32), B8 c := fun _ q => nomatch q
theorem b8_cons {a : Int32} {L : List Int32} (h : B8 a) (r : ∀ c ∈ L, B8 c) : ∀ c ∈ a :: L, B8 c := fun c q => (List.mem_cons.mp q).elim (fun e => e ▸ h) (r c)
theorem i2c_ch {c : Int32} (h0 : ¬ c < 0) (h1 : ¬ (65535 : Int32) < c) : c.toUInt32.toUInt16.toUInt32.toInt32 = c := by
  rw [Int32.lt_iff_toInt_lt, show (0 : Int32).toInt = 0 from rfl] at h0
  rw [Int32.lt_iff_toInt_lt, show (65535 : Int32).toInt = 65535 from rfl] at h1
  have e : c.toInt = c.toBitVec.toNat := by
    have q : c.toInt = c.toBitVec.toInt := rfl
    have lt := c.toBitVec.isLt
    rw [q, BitVec.toInt_eq_toNat_cond] at h0
    rw [q, BitVec.toInt_eq_toNat_cond]
    by_cases g : 2 * c.toBitVec.toNat < 2 ^ 32
    · rw [if_pos g]
    · rw [if_neg g] at h0; omega
  apply Int32.toBitVec_inj.mp
  apply BitVec.eq_of_toNat_eq
  show (c.toUInt32.toUInt16.toUInt32).toBitVec.toNat = _
  have q : (c.toUInt32.toUInt16.toUInt32).toNat = c.toUInt32.toNat % 65536 := by simp
  have q2 : c.toUInt32.toNat = c.toBitVec.toNat := rfl
  show (c.toUInt32.toUInt16.toUInt32).toNat = _
  rw [q, q2]; omega
theorem nar_c {c : Int32} (h : B8 c) : nar .char c = c := i2c_ch h.1 (fun q => h.2 (Int32.lt_trans (by decide) q))
theorem b8_and (x : Int32) : B8 (x &&& (255 : Int32)) := by
  have h : (x &&& 255).toBitVec.toNat < 256 := by
    simp only [Int32.toBitVec_and, BitVec.toNat_and]
    exact Nat.lt_succ_of_le Nat.and_le_right
  have e : (x &&& 255).toInt = (x &&& 255).toBitVec.toNat := by
    show (x &&& 255).toBitVec.toInt = _
    rw [BitVec.toInt_eq_toNat_cond, if_pos (by omega)]
  show ¬ (x &&& 255) < 0 ∧ ¬ (255 : Int32) < (x &&& 255)
  rw [Int32.lt_iff_toInt_lt, Int32.lt_iff_toInt_lt, e, show (0 : Int32).toInt = 0 from rfl, show (255 : Int32).toInt = 255 from rfl]
  omega
theorem and_le (x : Int32) {k : Int32} {K : Nat} (hk : k.toBitVec.toNat = K) (hK : K < 2147483648) : 0 ≤ (x &&& k).toInt ∧ (x &&& k).toInt ≤ K := by
  have h : (x &&& k).toBitVec.toNat ≤ K := by
    simp only [Int32.toBitVec_and, BitVec.toNat_and]
    rw [← hk]; exact Nat.and_le_right
  have e : (x &&& k).toInt = (x &&& k).toBitVec.toNat := by
    show (x &&& k).toBitVec.toInt = _
    rw [BitVec.toInt_eq_toNat_cond, if_pos (by omega)]
  rw [e]; omega
theorem i2c_b8 {c : Int32} (h : B8 c) : c.toUInt32.toUInt16.toUInt32.toInt32 = c := i2c_ch h.1 (fun q => h.2 (Int32.lt_trans (by decide) q))
theorem b8_i2c (x : Int32) : B8 ((x &&& (255 : Int32)).toUInt32.toUInt16.toUInt32.toInt32) := by rw [i2c_b8 (b8_and x)]; exact b8_and x
theorem own_r1 : some (Value.int (nar .boolean (1 : Int32))) = some (Value.int 1) := by decide
theorem own_nar1 : nar .boolean (1 : Int32) = 1 := by decide
theorem own_nar0 : nar .boolean (0 : Int32) = 0 := by decide
/-- a boolean that says whether P -/
def own_B (P : Prop) (v : Option Value) : Prop := ∃ r : Int32, v = some (.int r) ∧ ((r = 1 ∧ P) ∨ (r = 0 ∧ ¬ P))
def own_R (P : Prop) (r : Int32) : Prop := (r = 1 ∧ P) ∨ (r = 0 ∧ ¬ P)
theorem own_R.same {P Q : Prop} {r t : Int32} (h : own_R P r) (k : own_R Q t) (e : P ↔ Q) : r = t := by
  rcases h with ⟨rfl, p⟩ | ⟨rfl, p⟩ <;> rcases k with ⟨rfl, q⟩ | ⟨rfl, q⟩
  · rfl
  · exact absurd (e.mp p) q
  · exact absurd (e.mpr q) p
  · rfl
theorem own_R.yes {P : Prop} {r : Int32} (h : own_R P r) (p : P) : r = 1 := by rcases h with ⟨h, -⟩ | ⟨-, n⟩; exact h; exact absurd p n
theorem own_R.no {P : Prop} {r : Int32} (h : own_R P r) (p : ¬ P) : r = 0 := by rcases h with ⟨-, n⟩ | ⟨h, -⟩; exact absurd n p; exact h
theorem own_ninst {Z : State} {a0 : Array Value} {K : String} {n : Nat} (wS : (Cond.superclass "java/lang/String" "java/lang/Object").before a0 Z = true) (wO : (Cond.noSuperclass "java/lang/Object").before a0 Z = true) (wi : (Cond.instantiable K n).before a0 Z = true) (h1 : "java/lang/String" ≠ K) (h2 : "java/lang/Object" ≠ K) : ∃ c t, Z.vm.findClass "java/lang/String" = some c ∧ Z.vm.findClass K = some t ∧ Z.vm.assignable c t = false := by
  obtain ⟨t, kt, g1, g2, g3, g4, -⟩ := Cond.instantiable_spec wi
  obtain ⟨c, h0⟩ := found_sup wS
  obtain ⟨o, k, ko, e1, e2, e3, e4, e5, -, e7⟩ := Cond.superclass_spec h0 wS
  obtain ⟨o', ko', f1, f2, f3, -⟩ := Cond.noSuperclass_spec wO
  cases e1.symm.trans f1
  have n1 := ids_ne h0 g1 h1
  have n2 := ids_ne f1 g1 h2
  have g6 : kt.isInterface = false := by simp only [Bool.or_eq_false_iff] at g4; exact g4.1
  have q : ∀ fuel, Z.vm.isSubclassAux fuel c t = false := fun fuel => by
    cases fuel with
    | zero => rfl
    | succ f =>
      cases f with
      | zero => simp [Vm.isSubclassAux, n1, e2, e4]
      | succ g => simp [Vm.isSubclassAux, n1, n2, e2, e4, f2, f3]
  refine ⟨c, t, h0, g1, ?_⟩
  show Z.vm.assignableAux (255 + 1) c t = false
  simp [Vm.assignableAux, n1, e2, g2, e5, g3, g6, Vm.isSubclass, q]
theorem wsa : ∀ d ∈ Bundle.stringAtoms, d ∈ tables_1 := by decide +kernel
theorem wbv : ∀ d ∈ StrChars.Road.words, d ∈ tables_1 := by decide +kernel
abbrev C16 (c : Int32) : Prop := ¬ c < 0 ∧ ¬ (65535 : Int32) < c
/-- the object at a is a String of the chars cs, by the coder that the JDK takes -/
def TS (Z : State) (h : Heap) (a : Addr) (cs : List Int32) : Prop := ∃ (t : Addr) (kb : ClassId) (cd N2 : Int32) (vs : List Value), Exa Z h a "java/lang/String" ∧ Fld Z h a "java/lang/String" "coder" "B" (.int cd) ∧ Fld Z h a "java/lang/String" "value" "[B" (.ref t) ∧ Arv Z h t kb .byte N2 vs (.int 0) ∧ StrChars.Road.CodA cs cd N2 vs ∧ (∀ c ∈ cs, C16 c) ∧ cs.length ≤ 4000
theorem TS.ext {Z : State} {h h' : Heap} {a : Addr} {cs : List Int32} (F : TS Z h a cs) (E : Ext h h') : TS Z h' a cs := by
  obtain ⟨t, kb, cd, N2, vs, f1, f2, f3, f4, f5⟩ := F; exact ⟨t, kb, cd, N2, vs, f1.ext E, f2.ext E, f3.ext E, f4.ext E, f5⟩
theorem TS.exa {Z : State} {h : Heap} {a : Addr} {cs : List Int32} (F : TS Z h a cs) : Exa Z h a "java/lang/String" := by obtain ⟨t, kb, cd, N2, vs, f1, -⟩ := F; exact f1
theorem LS.ts {Z : State} {h : Heap} {a : Addr} {cs : List Int32} (F : LS Z h a cs) : TS Z h a cs := by
  obtain ⟨t, kb, f1, f2, f3, f4, f5, f6⟩ := F
  exact ⟨t, kb, 0, _, _, f1, f2, f3, f4, StrChars.Road.codOf rfl (fun c hc => (f5 c hc).2), up255 f5, f6⟩
theorem wchn : ∀ d ∈ StrChars.Road.wordsChN, d ∈ tables_1 := by decide +kernel
theorem wlen : ∀ d ∈ StrChars.Road.wordsLen, d ∈ tables_1 := by decide +kernel
theorem TS.lenB {p : Program} {l : Launch} {e : Env} {R : Room} {m : MethodId} {args : Array Value} {below : List Frame} {meth : Method} {c : Code} {own : String} {bytes : ByteArray} {maxL : Nat} {Z : State} {I : State → Heap → Prop} {s' T : State} {locs : List Loc} {cells slots : Nat} {h h1 : Heap} {a0 : Array Value} {x : Addr} {cs : List Int32} {z : Int32} (W : Nat) {len : Nat}
    (D : Wk p l e R m args below meth c own bytes maxL Z I s' T locs cells slots h1) (hw : ∀ d ∈ tables_1, d.before a0 Z = true) (A : TS Z h x cs) (S : Sta Z h "java/lang/String" "COMPACT_STRINGS" "Z" (.int z)) (hz : ¬ z = 0) (hf : 2 ≤ R.frames) (hl : W + 25 ≤ R.locals) :
    Back l R p e below s' args (⟨"java/lang/String", "length", "()I"⟩ : MethodName) len W (fun P a => a = #[.ref x] ∧ P.U.heap = h ∧ P.cells + 0 ≤ R.cells ∧ P.slots + 0 ≤ R.slots)
      (fun P _ v B => ∃ L, (v = some (.int (Int32.ofNat cs.length)) ∧ L = [] ∧ B.U.heap = h) ∧ B.locs = P.locs ++ L ∧ B.cells = P.cells + 0 ∧ B.slots = P.slots + 0) := by
  obtain ⟨t, kb, cd, N2, vs, f1, f2, f3, f4, f5, f6, f7⟩ := A
  exact StrChars.Road.lenW D.wm (fun d hd => hw d (wlen d hd)) (kI := 4) (hw _ w_5) f1 f3 f2 f4 f5 f6 S hz f7 hf hl
section Sup
variable {p : Program} {l : Launch} {e : Env} {R : Room} {m : MethodId} {args : Array Value} {below : List Frame} {meth : Method} {c : Code} {own : String} {bytes : ByteArray} {maxL : Nat} {Z : State} {I : State → Heap → Prop} {s' T : State} {locs : List Loc} {cells slots : Nat} {h : Heap} {G : Outcome → State → Prop} {pc : Nat} {Ls : Array Slot} {S : List Value} {a0 : Array Value}
theorem own_decl {y : MethodName} {bz : ByteArray} {mL : Nat} {ret : Option FieldType} (w1 : (Cond.instanceMethod y).before a0 Z = true) (w2 : (Cond.code y bz mL ret).before a0 Z = true) : (Cond.declares y).before a0 Z = true := by
  obtain ⟨m, meth, h1, h2, h3, -⟩ := Cond.instanceMethod_spec w1
  obtain ⟨meth', c, g1, -, -, -, -, -, -, g8⟩ := Cond.code_spec h1 w2
  cases h2.symm.trans g1
  simp [Cond.before, Cond.holds, Cond.value, h1, h2, h3, g8]
theorem own_nf {U : State} {C : String} {y y' : MethodName} (w : (Cond.selects C y' y').before args U = true) (hc : y'.cls = y.cls) : NotFace U y := fun r0 h0 => by
  obtain ⟨c2, r2, m2, q1, q2, q3, q4, kP, hkP, hkPi⟩ := Cond.selects_spec w
  have f1 := findClass_of_methodNamed h0
  have f2 := findClass_of_methodNamed q3
  rw [hc] at f2
  have e := Option.some.inj (f1.symm.trans f2)
  exact ⟨kP, by rw [e]; exact hkP, hkPi⟩
theorem own_same {C : String} {y y' : MethodName} (w1 : (Cond.declares y).before a0 Z = true) (w2 : (Cond.selects C y' y').before a0 Z = true) (hc : y'.cls = y.cls) (hmh : y.cls ≠ "java/lang/invoke/MethodHandle" ∧ y.cls ≠ "java/lang/invoke/VarHandle") : (Cond.sameMethod y.cls y.cls y.name y.desc).before a0 Z = true := by
  obtain ⟨m, meth, h1, h2, -, -⟩ := Cond.declares_spec w1
  obtain ⟨kP, hkP, hkPi⟩ := own_nf w2 hc m h1
  have f1 := findClass_of_methodNamed h1
  have f3 := State.methodFound?_of_named h1 hmh
  have h1' : Z.methodNamed? ⟨y.cls, y.name, y.desc⟩ = some m := h1
  simp [Cond.before, Cond.holds, Cond.value, f1, f3, h1', hkP, hkPi]
theorem g_callU (D : Wk p l e R m args below meth c own bytes maxL Z I s' T locs cells slots h) (pc' : Nat) {index : Nat} {y : MethodName} {K0 : String} {bz : ByteArray} {mL : Nat} {ret' : Option FieldType} {W ck sk : Nat} {as' : Array Value} {Q : Option Value → Heap → List Loc → Prop} (hn : y.name ≠ "<init>") (w1 : (Cond.methodLink own index y).before a0 Z = true) (w2 : (Cond.sameMethod y.cls y.cls y.name y.desc).before a0 Z = true) (w3 : (Cond.instanceMethod y).before a0 Z = true) (w4 : (Cond.superclass own y.cls).before a0 Z = true) (wc : (Cond.code y bz mL ret').before a0 Z = true)
    (K : Back l R p e below s' args y 3 W (fun A a => a = as' ∧ A.U.heap = h ∧ A.cells + ck ≤ R.cells ∧ A.slots + sk ≤ R.slots) (fun A _ v B => ∃ L, Q v B.U.heap L ∧ B.locs = A.locs ++ L ∧ B.cells = A.cells + ck ∧ B.slots = A.slots + sk)) {b : Addr} (F : Ins Z h b K0 true) (hsz : Ls.size = maxL) (argsL : List Value) (has : (.ref b :: argsL).toArray = as') (hlen : ∀ sig, parseMethodDescriptor y.desc = some sig → argsL.length = sig.parameters.length) {S0 : List Value} (hst : S0 = argsL.reverse ++ .ref b :: S) (hW : (S.map fun v => v.category).sum ≤ W) (hc : cells + ck ≤ R.cells) (hl : slots + sk ≤ R.slots) (hI : ∀ v h' L, Q v h' L → I s' h') (hd : decode bytes pc = .ok (.invokespecial index, 3)) (hp : pc + 3 = pc')
    (hr : ∀ v T' h' L, Q v h' L → Wk p l e R m args below meth c own bytes maxL Z I s' T' (locs ++ L) (cells + ck) (slots + sk) h' → Go p e below G (T'.setTop (mkF m pc' Ls (v.toList ++ S)))) : Go p e below G (T.setTop (mkF m pc Ls S0)) := by
  subst hp hst
  obtain ⟨v, _, ⟨T', L', k', n'⟩, -, X', ⟨L, hQ, l', y', z'⟩, st⟩ := superBack D.st D.ex D.wm D.ow w1 w2 w3 w4 hn K D.eq F (g := mkF m pc Ls (argsL.reverse ++ .ref b :: S)) rfl (by rw [D.ml]; exact hsz) wc (argsL := argsL) (rest := S) hlen rfl (by simpa using hW) (hb D.cb hd) (fun _ _ => ⟨has, D.eq, hc, hl⟩)
  dsimp only at X' l' y' z' st hQ
  subst l' y' z'
  exact Go.mono (fun t k => st.trans k) (hr v T' _ L hQ (D.mk' X' rfl (hI v _ L hQ)))
theorem g_callUp (D : Wk p l e R m args below meth c own bytes maxL Z I s' T locs cells slots h) (pc' : Nat) {index : Nat} {y : MethodName} {K0 : String} {bz : ByteArray} {mL : Nat} {ret' : Option FieldType} {W ck sk : Nat} {as' : Array Value} {Pv : Option Value → Prop} (hn : y.name ≠ "<init>") (w1 : (Cond.methodLink own index y).before a0 Z = true) (w2 : (Cond.sameMethod y.cls y.cls y.name y.desc).before a0 Z = true) (w3 : (Cond.instanceMethod y).before a0 Z = true) (w4 : (Cond.superclass own y.cls).before a0 Z = true) (wc : (Cond.code y bz mL ret').before a0 Z = true)
    (K : Back l R p e below s' args y 3 W (fun A a => a = as' ∧ A.U.heap = h ∧ A.cells + ck ≤ R.cells ∧ A.slots + sk ≤ R.slots) (fun A _ v B => ∃ L, (Pv v ∧ L = [] ∧ B.U.heap = h) ∧ B.locs = A.locs ++ L ∧ B.cells = A.cells + ck ∧ B.slots = A.slots + sk)) {b : Addr} (F : Ins Z h b K0 true) (hsz : Ls.size = maxL) (argsL : List Value) (has : (.ref b :: argsL).toArray = as') (hlen : ∀ sig, parseMethodDescriptor y.desc = some sig → argsL.length = sig.parameters.length) {S0 : List Value} (hst : S0 = argsL.reverse ++ .ref b :: S) (hW : (S.map fun v => v.category).sum ≤ W) (hc : cells + ck ≤ R.cells) (hl : slots + sk ≤ R.slots) (hd : decode bytes pc = .ok (.invokespecial index, 3)) (hp : pc + 3 = pc')
    (hr : ∀ v T', Pv v → Wk p l e R m args below meth c own bytes maxL Z I s' T' locs (cells + ck) (slots + sk) h → Go p e below G (T'.setTop (mkF m pc' Ls (v.toList ++ S)))) : Go p e below G (T.setTop (mkF m pc Ls S0)) := by
  refine g_callU D pc' (Q := fun v h' L => Pv v ∧ L = [] ∧ h' = h) hn w1 w2 w3 w4 wc K F hsz argsL has hlen hst hW hc hl (fun v h' L q => q.2.2 ▸ D.iv) hd hp ?_
  intro v T' h' L q D'
  obtain ⟨q1, q2, q3⟩ := q
  subst q2 q3
  rw [List.append_nil] at D'
  exact hr v T' q1 D'
end Sup
theorem own_clamp {n : Nat} (h : n ≤ 4000) : (Int32.ofNat n).toNatClampNeg = n := by
  simp only [Int32.toNatClampNeg, Int32.toInt_ofNat_small (show n < 2 ^ 31 by omega)]; omega
theorem own_nneg {n : Nat} (h : n ≤ 4000) : ¬ Int32.ofNat n < 0 := Int32.ofNat_not_neg (by omega)
theorem own_sl0 (c : Int32) : c <<< ((0 : Int32) &&& 31) = c := by
  rw [show ((0 : Int32) &&& 31) = 0 from by decide]
  apply Int32.toBitVec_inj.mp
  rw [Int32.toBitVec_shiftLeft, show ((0 : Int32).toBitVec.smod 32) = 0#32 from by decide]
  simp
theorem own_sub0 (c : Int32) : c - (0 : Int32) = c := by simp
theorem own_add {a b : Nat} : Int32.ofNat a + Int32.ofNat b = Int32.ofNat (a + b) := (Int32.ofNat_add a b).symm
theorem own_us {vs : List Value} {n : Nat} {d : Value} (hn : n ≤ 4000) (h : n ≤ vs.length) : vs.take n = (List.range (Int32.ofNat n).toNatClampNeg).map fun i => vs.getD ((0 : Int32).toNatClampNeg + i) d := by
  rw [own_clamp hn, show (0 : Int32).toNatClampNeg = 0 from rfl]
  apply List.ext_getElem
  · simp [Nat.min_eq_left h]
  · intro i h1 h2
    have hi : i < n := by simpa using h2
    have hi' : i < vs.length := by omega
    simp [List.getD_eq_getElem?_getD, hi']
theorem own_us' {vs : List Value} {n : Nat} {d : Value} (hn : n ≤ 4000) (h : n = vs.length) : vs = (List.range (Int32.ofNat n).toNatClampNeg).map fun i => vs.getD ((0 : Int32).toNatClampNeg + i) d := by
  subst h
  have q := own_us (vs := vs) (d := d) hn (Nat.le_refl _)
  rw [List.take_length] at q
  exact q
theorem own_cap {a b : Nat} (h : a + b ≤ 16) : ¬ (0 : Int32) < (Int32.ofNat a + Int32.ofNat b) - (16 : Int32) := by
  rw [own_add]
  have t : ∀ j : Fin 17, ¬ (0 : Int32) < Int32.ofNat j.val - (16 : Int32) := by decide
  exact t ⟨a + b, by omega⟩
theorem own_n16 {n : Nat} (h : n ≤ 8) : ¬ Int32.ofNat n = (16 : Int32) ∧ Int32.ofNat n < (16 : Int32) := by
  have t : ∀ j : Fin 9, ¬ Int32.ofNat j.val = (16 : Int32) ∧ Int32.ofNat j.val < (16 : Int32) := by decide
  exact t ⟨n, by omega⟩
theorem own_splice {cs ds : List Int32} {vs : List Value} (hv : vs.length = 16) (hk : cs.length + ds.length ≤ 16) (hp : vs.take cs.length = (cs.map StrChars.lo8).map Value.int) :
    (vs.take cs.length ++ (ds.map StrChars.lo8).map Value.int ++ vs.drop (cs.length + ds.length)).length = 16 ∧ (vs.take cs.length ++ (ds.map StrChars.lo8).map Value.int ++ vs.drop (cs.length + ds.length)).take (cs ++ ds).length = ((cs ++ ds).map StrChars.lo8).map Value.int := by
  constructor
  · simp; omega
  · rw [hp, List.take_append_of_le_length (by simp), List.take_of_length_le (by simp)]; simp
theorem own_tail {us : List Value} {n : Nat} {z : Value} (h : n ≤ 4000) : (List.replicate n z).take (0 : Int32).toNatClampNeg ++ us ++ (List.replicate n z).drop ((0 : Int32).toNatClampNeg + (Int32.ofNat n).toNatClampNeg) = us := by
  rw [own_clamp h, show (0 : Int32).toNatClampNeg = 0 from rfl]; simp
def own_str (n a b : Int32) : List Int32 := if n = (0 : Int32) then [] else if n = (1 : Int32) then [a] else [a, b]
def own_as : List Int32 := [32, 97, 115, 32]
def own_exp (i r a b c d : Int32) : Int32 := if i < r then (if i = (0 : Int32) then a else b) else if i - r = (0 : Int32) then 32 else if i - r = (1 : Int32) then 97 else if i - r = (2 : Int32) then 115 else if i - r = (3 : Int32) then 32 else if i - r = (4 : Int32) then c else d
theorem own_02 {l : Int32} (h : 0 ≤ l.toInt ∧ l.toInt ≤ 2) : l = 0 ∨ l = 1 ∨ l = 2 := by
  have e : ∀ k : Int32, l.toInt = k.toInt → l = k := fun k q => Int32.toInt_inj.mp q
  have : l.toInt = 0 ∨ l.toInt = 1 ∨ l.toInt = 2 := by omega
  rcases this with q | q | q
  · exact Or.inl (e 0 q)
  · exact Or.inr (Or.inl (e 1 q))
  · exact Or.inr (Or.inr (e 2 q))
theorem own_rem3 (x : Int32) : 0 ≤ ((x &&& (3 : Int32)) % (3 : Int32)).toInt ∧ ((x &&& (3 : Int32)) % (3 : Int32)).toInt ≤ 2 := by
  have h := and_le x (k := 3) (K := 3) (by decide) (by decide)
  have q := (c_irem (x &&& 3) 3 3 (by decide)).1 h.1
  rw [q]; omega
theorem own_b8s {n a b : Int32} (ha : B8 a) (hb : B8 b) : ∀ c ∈ own_str n a b, B8 c := by
  unfold own_str; split
  · exact b8_nil
  · split
    · exact b8_cons ha b8_nil
    · exact b8_cons ha (b8_cons hb b8_nil)
theorem own_sl {n a b : Int32} : (own_str n a b).length ≤ 2 := by unfold own_str; split <;> (try split) <;> simp
theorem own_b8app {cs ds : List Int32} (h : ∀ c ∈ cs, B8 c) (k : ∀ c ∈ ds, B8 c) : ∀ c ∈ cs ++ ds, B8 c := fun c q => (List.mem_append.mp q).elim (h c) (k c)
theorem own_b8as : ∀ c ∈ own_as, B8 c := by decide
theorem own_l0 {n a b : Int32} (h : 0 ≤ n.toInt ∧ n.toInt ≤ 2) : Int32.ofNat (own_str n a b).length = n := by rcases own_02 h with rfl | rfl | rfl <;> rfl
theorem own_l1 {n u a b c d : Int32} (h : 0 ≤ n.toInt ∧ n.toInt ≤ 2) (k : 0 ≤ u.toInt ∧ u.toInt ≤ 2) : Int32.ofNat (([] ++ own_str n a b) ++ own_as ++ own_str u c d).length = (n + (4 : Int32)) + u := by rcases own_02 h with rfl | rfl | rfl <;> rcases own_02 k with rfl | rfl | rfl <;> rfl
theorem own_h0_0 {n a b c d : Int32} (h : 0 ≤ n.toInt ∧ n.toInt ≤ 2) : ¬ (0 : Int32) < n ∨ ((0 : Int32) < n ∧ (0 : Int32) = Int32.ofNat 0 ∧ 0 < (own_str n a b).length ∧ (own_str n a b).getD 0 0 = own_exp 0 n a b c d) := by
  rcases own_02 h with rfl | rfl | rfl <;> first | (left; decide) | (right; exact ⟨by decide, rfl, Nat.le_of_ble_eq_true rfl, rfl⟩)
theorem own_h1_0 {n u a b c d : Int32} (h : 0 ≤ n.toInt ∧ n.toInt ≤ 2) (k : 0 ≤ u.toInt ∧ u.toInt ≤ 2) : ¬ (0 : Int32) < ((n + (4 : Int32)) + u) ∨ ((0 : Int32) < ((n + (4 : Int32)) + u) ∧ (0 : Int32) = Int32.ofNat 0 ∧ 0 < (([] ++ own_str n a b) ++ own_as ++ own_str u c d).length ∧ (([] ++ own_str n a b) ++ own_as ++ own_str u c d).getD 0 0 = own_exp 0 n a b c d) := by
  rcases own_02 h with rfl | rfl | rfl <;> rcases own_02 k with rfl | rfl | rfl <;> first | (left; decide) | (right; exact ⟨by decide, rfl, Nat.le_of_ble_eq_true rfl, rfl⟩)
theorem own_h0_1 {n a b c d : Int32} (h : 0 ≤ n.toInt ∧ n.toInt ≤ 2) : ¬ (1 : Int32) < n ∨ ((1 : Int32) < n ∧ (1 : Int32) = Int32.ofNat 1 ∧ 1 < (own_str n a b).length ∧ (own_str n a b).getD 1 0 = own_exp 1 n a b c d) := by
  rcases own_02 h with rfl | rfl | rfl <;> first | (left; decide) | (right; exact ⟨by decide, rfl, Nat.le_of_ble_eq_true rfl, rfl⟩)
theorem own_h1_1 {n u a b c d : Int32} (h : 0 ≤ n.toInt ∧ n.toInt ≤ 2) (k : 0 ≤ u.toInt ∧ u.toInt ≤ 2) : ¬ (1 : Int32) < ((n + (4 : Int32)) + u) ∨ ((1 : Int32) < ((n + (4 : Int32)) + u) ∧ (1 : Int32) = Int32.ofNat 1 ∧ 1 < (([] ++ own_str n a b) ++ own_as ++ own_str u c d).length ∧ (([] ++ own_str n a b) ++ own_as ++ own_str u c d).getD 1 0 = own_exp 1 n a b c d) := by
  rcases own_02 h with rfl | rfl | rfl <;> rcases own_02 k with rfl | rfl | rfl <;> first | (left; decide) | (right; exact ⟨by decide, rfl, Nat.le_of_ble_eq_true rfl, rfl⟩)
theorem own_h0_2 {n a b c d : Int32} (h : 0 ≤ n.toInt ∧ n.toInt ≤ 2) : ¬ (2 : Int32) < n ∨ ((2 : Int32) < n ∧ (2 : Int32) = Int32.ofNat 2 ∧ 2 < (own_str n a b).length ∧ (own_str n a b).getD 2 0 = own_exp 2 n a b c d) := by
  rcases own_02 h with rfl | rfl | rfl <;> first | (left; decide) | (right; exact ⟨by decide, rfl, Nat.le_of_ble_eq_true rfl, rfl⟩)
theorem own_h1_2 {n u a b c d : Int32} (h : 0 ≤ n.toInt ∧ n.toInt ≤ 2) (k : 0 ≤ u.toInt ∧ u.toInt ≤ 2) : ¬ (2 : Int32) < ((n + (4 : Int32)) + u) ∨ ((2 : Int32) < ((n + (4 : Int32)) + u) ∧ (2 : Int32) = Int32.ofNat 2 ∧ 2 < (([] ++ own_str n a b) ++ own_as ++ own_str u c d).length ∧ (([] ++ own_str n a b) ++ own_as ++ own_str u c d).getD 2 0 = own_exp 2 n a b c d) := by
  rcases own_02 h with rfl | rfl | rfl <;> rcases own_02 k with rfl | rfl | rfl <;> first | (left; decide) | (right; exact ⟨by decide, rfl, Nat.le_of_ble_eq_true rfl, rfl⟩)
theorem own_h0_3 {n a b c d : Int32} (h : 0 ≤ n.toInt ∧ n.toInt ≤ 2) : ¬ (3 : Int32) < n ∨ ((3 : Int32) < n ∧ (3 : Int32) = Int32.ofNat 3 ∧ 3 < (own_str n a b).length ∧ (own_str n a b).getD 3 0 = own_exp 3 n a b c d) := by
  rcases own_02 h with rfl | rfl | rfl <;> first | (left; decide) | (right; exact ⟨by decide, rfl, Nat.le_of_ble_eq_true rfl, rfl⟩)
theorem own_h1_3 {n u a b c d : Int32} (h : 0 ≤ n.toInt ∧ n.toInt ≤ 2) (k : 0 ≤ u.toInt ∧ u.toInt ≤ 2) : ¬ (3 : Int32) < ((n + (4 : Int32)) + u) ∨ ((3 : Int32) < ((n + (4 : Int32)) + u) ∧ (3 : Int32) = Int32.ofNat 3 ∧ 3 < (([] ++ own_str n a b) ++ own_as ++ own_str u c d).length ∧ (([] ++ own_str n a b) ++ own_as ++ own_str u c d).getD 3 0 = own_exp 3 n a b c d) := by
  rcases own_02 h with rfl | rfl | rfl <;> rcases own_02 k with rfl | rfl | rfl <;> first | (left; decide) | (right; exact ⟨by decide, rfl, Nat.le_of_ble_eq_true rfl, rfl⟩)
theorem own_h0_4 {n a b c d : Int32} (h : 0 ≤ n.toInt ∧ n.toInt ≤ 2) : ¬ (4 : Int32) < n ∨ ((4 : Int32) < n ∧ (4 : Int32) = Int32.ofNat 4 ∧ 4 < (own_str n a b).length ∧ (own_str n a b).getD 4 0 = own_exp 4 n a b c d) := by
  rcases own_02 h with rfl | rfl | rfl <;> first | (left; decide) | (right; exact ⟨by decide, rfl, Nat.le_of_ble_eq_true rfl, rfl⟩)
theorem own_h1_4 {n u a b c d : Int32} (h : 0 ≤ n.toInt ∧ n.toInt ≤ 2) (k : 0 ≤ u.toInt ∧ u.toInt ≤ 2) : ¬ (4 : Int32) < ((n + (4 : Int32)) + u) ∨ ((4 : Int32) < ((n + (4 : Int32)) + u) ∧ (4 : Int32) = Int32.ofNat 4 ∧ 4 < (([] ++ own_str n a b) ++ own_as ++ own_str u c d).length ∧ (([] ++ own_str n a b) ++ own_as ++ own_str u c d).getD 4 0 = own_exp 4 n a b c d) := by
  rcases own_02 h with rfl | rfl | rfl <;> rcases own_02 k with rfl | rfl | rfl <;> first | (left; decide) | (right; exact ⟨by decide, rfl, Nat.le_of_ble_eq_true rfl, rfl⟩)
theorem own_h0_5 {n a b c d : Int32} (h : 0 ≤ n.toInt ∧ n.toInt ≤ 2) : ¬ (5 : Int32) < n ∨ ((5 : Int32) < n ∧ (5 : Int32) = Int32.ofNat 5 ∧ 5 < (own_str n a b).length ∧ (own_str n a b).getD 5 0 = own_exp 5 n a b c d) := by
  rcases own_02 h with rfl | rfl | rfl <;> first | (left; decide) | (right; exact ⟨by decide, rfl, Nat.le_of_ble_eq_true rfl, rfl⟩)
theorem own_h1_5 {n u a b c d : Int32} (h : 0 ≤ n.toInt ∧ n.toInt ≤ 2) (k : 0 ≤ u.toInt ∧ u.toInt ≤ 2) : ¬ (5 : Int32) < ((n + (4 : Int32)) + u) ∨ ((5 : Int32) < ((n + (4 : Int32)) + u) ∧ (5 : Int32) = Int32.ofNat 5 ∧ 5 < (([] ++ own_str n a b) ++ own_as ++ own_str u c d).length ∧ (([] ++ own_str n a b) ++ own_as ++ own_str u c d).getD 5 0 = own_exp 5 n a b c d) := by
  rcases own_02 h with rfl | rfl | rfl <;> rcases own_02 k with rfl | rfl | rfl <;> first | (left; decide) | (right; exact ⟨by decide, rfl, Nat.le_of_ble_eq_true rfl, rfl⟩)
theorem own_h0_6 {n a b c d : Int32} (h : 0 ≤ n.toInt ∧ n.toInt ≤ 2) : ¬ (6 : Int32) < n ∨ ((6 : Int32) < n ∧ (6 : Int32) = Int32.ofNat 6 ∧ 6 < (own_str n a b).length ∧ (own_str n a b).getD 6 0 = own_exp 6 n a b c d) := by
  rcases own_02 h with rfl | rfl | rfl <;> first | (left; decide) | (right; exact ⟨by decide, rfl, Nat.le_of_ble_eq_true rfl, rfl⟩)
theorem own_h1_6 {n u a b c d : Int32} (h : 0 ≤ n.toInt ∧ n.toInt ≤ 2) (k : 0 ≤ u.toInt ∧ u.toInt ≤ 2) : ¬ (6 : Int32) < ((n + (4 : Int32)) + u) ∨ ((6 : Int32) < ((n + (4 : Int32)) + u) ∧ (6 : Int32) = Int32.ofNat 6 ∧ 6 < (([] ++ own_str n a b) ++ own_as ++ own_str u c d).length ∧ (([] ++ own_str n a b) ++ own_as ++ own_str u c d).getD 6 0 = own_exp 6 n a b c d) := by
  rcases own_02 h with rfl | rfl | rfl <;> rcases own_02 k with rfl | rfl | rfl <;> first | (left; decide) | (right; exact ⟨by decide, rfl, Nat.le_of_ble_eq_true rfl, rfl⟩)
theorem own_h0_7 {n a b c d : Int32} (h : 0 ≤ n.toInt ∧ n.toInt ≤ 2) : ¬ (7 : Int32) < n ∨ ((7 : Int32) < n ∧ (7 : Int32) = Int32.ofNat 7 ∧ 7 < (own_str n a b).length ∧ (own_str n a b).getD 7 0 = own_exp 7 n a b c d) := by
  rcases own_02 h with rfl | rfl | rfl <;> first | (left; decide) | (right; exact ⟨by decide, rfl, Nat.le_of_ble_eq_true rfl, rfl⟩)
theorem own_h1_7 {n u a b c d : Int32} (h : 0 ≤ n.toInt ∧ n.toInt ≤ 2) (k : 0 ≤ u.toInt ∧ u.toInt ≤ 2) : ¬ (7 : Int32) < ((n + (4 : Int32)) + u) ∨ ((7 : Int32) < ((n + (4 : Int32)) + u) ∧ (7 : Int32) = Int32.ofNat 7 ∧ 7 < (([] ++ own_str n a b) ++ own_as ++ own_str u c d).length ∧ (([] ++ own_str n a b) ++ own_as ++ own_str u c d).getD 7 0 = own_exp 7 n a b c d) := by
  rcases own_02 h with rfl | rfl | rfl <;> rcases own_02 k with rfl | rfl | rfl <;> first | (left; decide) | (right; exact ⟨by decide, rfl, Nat.le_of_ble_eq_true rfl, rfl⟩)

def Q_cE4 (Z : State) (x b : Addr) (h0 : Heap) (n0 : Nat) : Option Value → Heap → List Loc → Prop := (fun v h L => v = none ∧ Fr n0 L ∧ Keep h0 h [x] ∧ LS Z h x [])
set_option maxRecDepth 65536 in
set_option maxHeartbeats 40000000 in
theorem cE4 (l : Launch) (Z : State) (a0 : Array Value) (hw : ∀ d ∈ tables_1, d.before a0 Z = true) (ws : List Jvm.Cond) (x b : Addr) (h0 : Heap) (n0 : Nat) (Z0 : n0 ≤ h0.size) (hEW : EW Z a0 consts_1) (E_x : Exa Z h0 x "java/lang/String") (F_v : Fld Z h0 x "java/lang/String" "value" "[B" .null) (F_c : Fld Z h0 x "java/lang/String" "coder" "B" (.int (0 : Int32))) (gx : n0 ≤ x) :
    ConW l (⟨"java/lang/String", "<init>", "([CIILjava/lang/Void;)V"⟩ : MethodName) jdk_42_method_149_code 6 none ws ({ frames := 1, cells := 4, slots := 8, locals := 12 } : Room) Z consts_1 #[(.ref x), (.ref b), (.int (0 : Int32)), (.int (0 : Int32)), .null] h0 (Q_cE4 Z x b h0 n0) 4 8 := by
  refine enterW (plainFor_of_name pn_0) ?_
  intro p e s m below meth c s₁ hnm hret hlk D0
  rw [ef_cE4 m x b]
  refine g_aloadN D0 1 d_jdk_42m149_0 rfl rfl rfl ?_
  refine g_initO D0 4 (hw _ w_15) (hw _ w_16) (hw _ w_17) rfl d_jdk_42m149_1 (by decide) (W := 0) (Nat.le_of_eq rfl) (by decide) rfl ?_
  intro T101 D101
  refine g_iloadN D101 5 d_jdk_42m149_4 rfl rfl ?_
  refine g_ifN D101 8 d_jdk_42m149_5 (by decide) rfl ?_
  refine g_aloadN D101 9 d_jdk_42m149_8 rfl rfl rfl ?_
  refine g_ldcS D101 11 hEW (hw _ w_18) (fun a ha => hw a (wsa a ha)) (by decide) [] 0 ⟨by decide, rfl⟩ ⟨by decide, by decide⟩ (by decide) (by decide) d_jdk_42m149_9 (by decide) (by decide) rfl ?_
  intro s102 T102 h102 la102 lt102 lk102 E102 X102 C102 V102 A102 HS102 SF102 D102
  have S102 := SF102 x E_x.lt (safe_null D101.wm.alike E_x F_v)
  refine g_getF D102 14 (hw _ w_24) Via.refl V102 d_jdk_42m149_11 rfl ?_
  intro T103 D103
  refine g_putF D103 17 (hw _ w_24) Via.refl (F_v.ext E102) (E_x.ext E102) (Or.inr ⟨(hw _ w_20), rfl, hnm⟩) (hw _ w_5) (ty := (.array .byte)) (by decide) rfl rfl (fun _ W => D103.iv.wr S102 W) d_jdk_42m149_14 rfl ?_
  intro T104 h104 W104 D104
  have N104 := Fr.snoc D104.st (Fr.nil n0) gx
  have F104 := (F_v.ext E102).same W104
  have S102b := D103.iv.safeWr S102 W104 S102
  refine g_aloadN D104 18 d_jdk_42m149_17 rfl rfl rfl ?_
  refine g_ldcS D104 20 hEW (hw _ w_18) (fun a ha => hw a (wsa a ha)) (by decide) [] 0 ⟨by decide, rfl⟩ ⟨by decide, by decide⟩ (by decide) (by decide) d_jdk_42m149_18 (by decide) (by decide) rfl ?_
  intro s105 T105 h105 la105 lt105 lk105 E105 X105 C105 V105 A105 HS105 SF105 D105
  have S105 := SF105 x ((E_x.ext E102).wr W104).lt S102b
  refine g_getF D105 23 (hw _ w_25) Via.refl C105 d_jdk_42m149_20 rfl ?_
  intro T106 D106
  refine g_putF D106 26 (hw _ w_25) Via.refl (((F_c.ext E102).other W104 (Or.inr (slot_ne (Or.inr (hw _ w_21)) (Or.inr (hw _ w_20)) (by decide) (t := .byte) (t' := (.array .byte)) (by decide) (by decide)))).ext E105) (((E_x.ext E102).wr W104).ext E105) (Or.inr ⟨(hw _ w_21), rfl, hnm⟩) (hw _ w_5) (ty := .byte) (by decide) rfl rfl (fun _ W => D106.iv.wr S105 W) d_jdk_42m149_23 rfl ?_
  intro T107 h107 W107 D107
  have N107 := Fr.snoc D107.st N104 gx
  have F107 := (((F_c.ext E102).other W104 (Or.inr (slot_ne (Or.inr (hw _ w_21)) (Or.inr (hw _ w_20)) (by decide) (t := .byte) (t' := (.array .byte)) (by decide) (by decide)))).ext E105).same W107
  exact r_Vw D107 hEW hret hlk d_jdk_42m149_26 ⟨rfl, N107, (((((Keep.refl _ [x]).ext E102).wr W104 (Or.inl (List.mem_of_getElem? (i := 0) rfl))).ext E105).wr W107 (Or.inl (List.mem_of_getElem? (i := 0) rfl))), lt102, lk102, ((((E_x.ext E102).wr W104).ext E105).wr W107), F107, ((F104.ext E105).other W107 (Or.inr (slot_ne (Or.inr (hw _ w_20)) (Or.inr (hw _ w_21)) (by decide) (t := (.array .byte)) (t' := .byte) (by decide) (by decide)))), (((A102.other W104 (Ne.symm (HS102 x S102).2)).ext E105).other W107 (Ne.symm (HS102 x S102).2)), b8_nil, by decide⟩ (by decide) (by decide)
def Q_cE1 (Z : State) (x b : Addr) (kb : ClassId) (h0 : Heap) (n0 : Nat) : Option Value → Heap → List Loc → Prop := (fun v h L => v = none ∧ Fr n0 L ∧ Keep h0 h [x] ∧ LS Z h x [])
set_option maxRecDepth 65536 in
set_option maxHeartbeats 40000000 in
theorem cE1 (l : Launch) (Z : State) (a0 : Array Value) (hw : ∀ d ∈ tables_1, d.before a0 Z = true) (ws : List Jvm.Cond) (x b : Addr) (kb : ClassId) (h0 : Heap) (n0 : Nat) (Z0 : n0 ≤ h0.size) (hEW : EW Z a0 consts_1) (E_x : Exa Z h0 x "java/lang/String") (F_v : Fld Z h0 x "java/lang/String" "value" "[B" .null) (F_c : Fld Z h0 x "java/lang/String" "coder" "B" (.int (0 : Int32))) (gx : n0 ≤ x) (V_b : Arv Z h0 b kb .char (0 : Int32) [] (.int (0 : Int32))) :
    ConW l (⟨"java/lang/String", "<init>", "([C)V"⟩ : MethodName) jdk_42_method_3_code 2 none ws ({ frames := 2, cells := 4, slots := 8, locals := 29 } : Room) Z consts_1 #[(.ref x), (.ref b)] h0 (Q_cE1 Z x b kb h0 n0) 4 8 := by
  refine enterW (plainFor_of_name pn_0) ?_
  intro p e s m below meth c s₁ hnm hret hlk D0
  rw [ef_cE1 m x b]
  refine g_aloadN D0 1 d_jdk_42m3_0 rfl rfl rfl ?_
  refine g_aloadN D0 2 d_jdk_42m3_1 rfl rfl rfl ?_
  refine g_iconst D0 3 (0 : Int32) d_jdk_42m3_2 rfl rfl ?_
  refine g_aloadN D0 4 d_jdk_42m3_3 rfl rfl rfl ?_
  refine g_alen D0 5 V_b d_jdk_42m3_4 rfl ?_
  refine g_aconst D0 6 d_jdk_42m3_5 rfl ?_
  refine g_callNW D0 9 hEW rfl (hw _ w_11) (hw _ w_12) (hw _ w_6) (hw _ w_14) (by decide) (cE4 l Z a0 hw [] x b h0 n0 Z0 hEW E_x F_v F_c gx) rfl [(.ref b), (.int (0 : Int32)), (.int (0 : Int32)), .null] rfl (lenOf pd_0 rfl) rfl 0 (Nat.le_of_eq rfl) (by decide) (by decide) (by decide) (by decide) d_jdk_42m3_6 rfl ?_
  intro v108 s108 T108 h108 L108 q108 SF108 D108
  obtain ⟨rfl, N1, K1, X1⟩ := q108
  rw [List.nil_append] at D108
  show Go p e below _ (T108.setTop (mkF m 9 #[.val (.ref x), .val (.ref b)] []))
  exact r_Vw D108 hEW hret hlk d_jdk_42m3_9 ⟨rfl, N1, K1, X1⟩ (by decide) (by decide)
def Q_cStr (Z : State) (n c0 c1 zc : Int32) (h0 : Heap) (n0 : Nat) : Option Value → Heap → List Loc → Prop := (fun v h L => ∃ a, v = some (.ref a) ∧ Fr n0 L ∧ Ext h0 h ∧ LS Z h a (own_str n c0 c1))
set_option maxRecDepth 65536 in
set_option maxHeartbeats 40000000 in
theorem cStr (l : Launch) (Z : State) (a0 : Array Value) (hw : ∀ d ∈ tables_1, d.before a0 Z = true) (ws : List Jvm.Cond) (n c0 c1 zc : Int32) (h0 : Heap) (n0 : Nat) (Z0 : n0 ≤ h0.size) (hEW : EW Z a0 consts_1) (OLD : Old Z n0 h0) (CS : Sta Z Z.heap "java/lang/String" "COMPACT_STRINGS" "Z" (.int zc)) (hzc : ¬ zc = 0) (b0 : B8 c0) (b1 : B8 c1) :
    ConW l (⟨"com/example/pactum/pactum/model/ResourceLoginToStringPinLaw", "str", "(ICC)Ljava/lang/String;"⟩ : MethodName) method_2_code 3 (some (.object "java/lang/String")) ws ({ frames := 4, cells := 6, slots := 12, locals := 66 } : Room) Z consts_1 #[(.int n), (.int c0), (.int c1)] h0 (Q_cStr Z n c0 c1 zc h0 n0) 6 12 := by
  refine enterW (plainFor_of_name pn_1) ?_
  intro p e s m below meth c s₁ hnm hret hlk D0
  rw [ef_cStr m n c0 c1]
  refine g_iloadN D0 1 d_method_2_0 rfl rfl ?_
  by_cases z0 : n = (0 : Int32)
  · refine g_ifN D0 4 d_method_2_1 (teq z0).2 rfl ?_
    refine g_newO D0 7 (hw _ w_4) (hw _ w_5) (hw _ w_6) d_method_2_4 (by decide) (by decide) (fun _ E => D0.iv.ext E) rfl ?_
    intro T109 h109 a109 g109 E109 A109 N109 D109
    refine g_dup D109 8 d_method_2_7 rfl rfl ?_
    refine g_iconst D109 9 (0 : Int32) d_method_2_8 rfl rfl ?_
    refine g_newP D109 11 (aty := .char) (hw _ w_7) d_method_2_9 (by decide) (cap := 0) (by decide) (by decide) (by decide) (by decide) (fun _ E => D109.iv.ext E) rfl ?_
    intro T110 h110 a110 k110 g110 E110 V110 D110
    refine g_callNW D110 14 hEW rfl (hw _ w_8) (hw _ w_9) (hw _ w_6) (hw _ w_10) (by decide) (cE1 l Z a0 hw [] a109 a110 k110 h110 n0 (Nat.le_trans (Nat.le_trans Z0 E109.1) E110.1) hEW (A109.ext E110) ((N109 (Or.inr (hw _ w_20)) (ty := (.array .byte)) (by decide)).ext E110) ((N109 (Or.inr (hw _ w_21)) (ty := .byte) (by decide)).ext E110) (Nat.le_trans Z0 (Nat.le_of_eq g109.symm)) V110) rfl [(.ref a110)] rfl (lenOf pd_1 rfl) rfl 1 (Nat.le_of_eq rfl) (by decide) (by decide) (by decide) (by decide) d_method_2_11 rfl ?_
    intro v111 s111 T111 h111 L111 q111 SF111 D111
    obtain ⟨rfl, N111, K111, X111⟩ := q111
    have NF111 := Fr.app (Fr.nil n0) N111
    show Go p e below _ (T111.setTop (mkF m 14 #[.val (.int n), .val (.int c0), .val (.int c1)] [(.ref a109)]))
    exact r_Aw D111 hEW hret rfl rfl hlk d_method_2_14 ⟨a109, rfl, NF111, Keep.toExt ((((Keep.refl _ []).ext E109).ext E110).trans K111 (allS (Or.inr (Nat.le_trans (Nat.le_refl _) (Nat.le_of_eq g109.symm))) all0)), by rw [show own_str n c0 c1 = [] from by simp [own_str, z0]]; exact X111⟩ (by decide) (by decide)
  refine g_ifY D0 15 d_method_2_1 (feq z0).2 (by decide) (by decide) ?_
  refine g_iloadN D0 16 d_method_2_15 rfl rfl ?_
  refine g_iconst D0 17 (1 : Int32) d_method_2_16 rfl rfl ?_
  by_cases z1 : n = (1 : Int32)
  · refine g_icmpN D0 20 d_method_2_17 (teq z1).2 rfl ?_
    refine g_newO D0 23 (hw _ w_4) (hw _ w_5) (hw _ w_6) d_method_2_20 (by decide) (by decide) (fun _ E => D0.iv.ext E) rfl ?_
    intro T112 h112 a112 g112 E112 A112 N112 D112
    refine g_dup D112 24 d_method_2_23 rfl rfl ?_
    refine g_iconst D112 25 (1 : Int32) d_method_2_24 rfl rfl ?_
    refine g_newP D112 27 (aty := .char) (hw _ w_7) d_method_2_25 (by decide) (cap := 1) (by decide) (by decide) (by decide) (by decide) (fun _ E => D112.iv.ext E) rfl ?_
    intro T113 h113 a113 k113 g113 E113 V113 D113
    have V113' : Arv Z h113 a113 k113 .char (1 : Int32) [(.int (0 : Int32))] (.int (0 : Int32)) := V113.pad (pad_rep [] (.int (0 : Int32)) 1)
    refine g_dup D113 28 d_method_2_27 rfl rfl ?_
    refine g_iconst D113 29 (0 : Int32) d_method_2_28 rfl rfl ?_
    refine g_iloadN D113 30 d_method_2_29 rfl rfl ?_
    refine g_castore D113 31 V113' ⟨by decide, by decide⟩ 0 (by decide) (Nat.le_of_ble_eq_true rfl) (fun _ W => D113.iv.wr (Safe.arv D113.wm.alike V113' (by decide)) W) d_method_2_30 rfl ?_
    intro T114 h114 W114 V114 D114
    rw [nar_c b0] at V114
    replace V114 : Arv Z h114 a113 k113 .char (1 : Int32) [(.int c0)] (.int (0 : Int32)) := V114
    have N114 := Fr.snoc D114.st (Fr.nil n0) (Nat.le_trans (Nat.le_trans Z0 E112.1) (Nat.le_of_eq g113.symm))
    refine g_callN D114 34 rfl (hw _ w_8) (hw _ w_9) (hw _ w_10) (by decide) (StrChars.Road.backV (W := 1) D114.wm (fun d hd => hw d (wbv d hd)) (kI := 4) (hw _ w_5) (cs := [c0]) (bs := ([c0].map StrChars.lo8)) (n := 1) (n0 := n0) (Nat.le_trans Z0 (Nat.le_of_eq g112.symm)) (Nat.le_trans (Nat.le_trans (Nat.le_trans Z0 E112.1) E113.1) (Keep.of_wr W114).1) ((A112.ext E113).wr W114) (((N112 (Or.inr (hw _ w_20)) (ty := (.array .byte)) (by decide)).ext E113).other W114 (Or.inl (Nat.ne_of_lt (Nat.lt_of_lt_of_le A112.lt (Nat.le_of_eq g113.symm))))) (((N112 (Or.inr (hw _ w_21)) (ty := .byte) (by decide)).ext E113).other W114 (Or.inl (Nat.ne_of_lt (Nat.lt_of_lt_of_le A112.lt (Nat.le_of_eq g113.symm))))) V114 (CS.ext (((OLD.ext E112).ext E113).wr W114 (Nat.le_trans (Nat.le_trans Z0 E112.1) (Nat.le_of_eq g113.symm))).2) hzc rfl rfl (by decide) (by decide) (b8_cons b0 b8_nil) rfl (by decide) (by decide)) rfl [(.ref a113)] rfl (lenOf pd_1 rfl) rfl (Nat.le_of_eq rfl) (by decide) (by decide) (fun _ _ _ q => D114.iv.keep (sfS (safe_null D114.wm.alike ((A112.ext E113).wr W114) (((N112 (Or.inr (hw _ w_20)) (ty := (.array .byte)) (by decide)).ext E113).other W114 (Or.inl (Nat.ne_of_lt (Nat.lt_of_lt_of_le A112.lt (Nat.le_of_eq g113.symm)))))) sf0) q.2.2.1) d_method_2_31 rfl ?_
    intro v115 T115 h115 L115 q115 D115
    obtain ⟨rfl, N115, K115, A115, C115, t115, kb115, -, -, -, Vf115, Va115⟩ := q115
    have NF115 := Fr.app N114 N115
    have X115 : LS Z h115 a112 [c0] := ⟨t115, kb115, A115, C115, Vf115, Va115, (b8_cons b0 b8_nil), Nat.le_of_ble_eq_true rfl⟩
    show Go p e below _ (T115.setTop (mkF m 34 #[.val (.int n), .val (.int c0), .val (.int c1)] [(.ref a112)]))
    exact r_Aw D115 hEW hret rfl rfl hlk d_method_2_34 ⟨a112, rfl, NF115, Keep.toExt (((((Keep.refl _ []).ext E112).ext E113).wr W114 (Or.inr (Nat.le_trans (Nat.le_trans (Nat.le_refl _) E112.1) (Nat.le_of_eq g113.symm)))).trans K115 (allS (Or.inr (Nat.le_trans (Nat.le_refl _) (Nat.le_of_eq g112.symm))) all0)), by rw [show own_str n c0 c1 = [c0] from by simp [own_str, z0, z1]]; exact X115⟩ (by decide) (by decide)
  refine g_icmpY D0 35 d_method_2_17 (feq z1).2 (by decide) (by decide) ?_
  refine g_newO D0 38 (hw _ w_4) (hw _ w_5) (hw _ w_6) d_method_2_35 (by decide) (by decide) (fun _ E => D0.iv.ext E) rfl ?_
  intro T116 h116 a116 g116 E116 A116 N116 D116
  refine g_dup D116 39 d_method_2_38 rfl rfl ?_
  refine g_iconst D116 40 (2 : Int32) d_method_2_39 rfl rfl ?_
  refine g_newP D116 42 (aty := .char) (hw _ w_7) d_method_2_40 (by decide) (cap := 2) (by decide) (by decide) (by decide) (by decide) (fun _ E => D116.iv.ext E) rfl ?_
  intro T117 h117 a117 k117 g117 E117 V117 D117
  have V117' : Arv Z h117 a117 k117 .char (2 : Int32) [(.int (0 : Int32)), (.int (0 : Int32))] (.int (0 : Int32)) := V117.pad (pad_rep [] (.int (0 : Int32)) 2)
  refine g_dup D117 43 d_method_2_42 rfl rfl ?_
  refine g_iconst D117 44 (0 : Int32) d_method_2_43 rfl rfl ?_
  refine g_iloadN D117 45 d_method_2_44 rfl rfl ?_
  refine g_castore D117 46 V117' ⟨by decide, by decide⟩ 0 (by decide) (Nat.le_of_ble_eq_true rfl) (fun _ W => D117.iv.wr (Safe.arv D117.wm.alike V117' (by decide)) W) d_method_2_45 rfl ?_
  intro T118 h118 W118 V118 D118
  rw [nar_c b0] at V118
  replace V118 : Arv Z h118 a117 k117 .char (2 : Int32) [(.int c0), (.int (0 : Int32))] (.int (0 : Int32)) := V118
  have N118 := Fr.snoc D118.st (Fr.nil n0) (Nat.le_trans (Nat.le_trans Z0 E116.1) (Nat.le_of_eq g117.symm))
  refine g_dup D118 47 d_method_2_46 rfl rfl ?_
  refine g_iconst D118 48 (1 : Int32) d_method_2_47 rfl rfl ?_
  refine g_iloadN D118 49 d_method_2_48 rfl rfl ?_
  refine g_castore D118 50 V118 ⟨by decide, by decide⟩ 1 (by decide) (Nat.le_of_ble_eq_true rfl) (fun _ W => D118.iv.wr (Safe.arv D118.wm.alike V118 (by decide)) W) d_method_2_49 rfl ?_
  intro T119 h119 W119 V119 D119
  rw [nar_c b1] at V119
  replace V119 : Arv Z h119 a117 k117 .char (2 : Int32) [(.int c0), (.int c1)] (.int (0 : Int32)) := V119
  have N119 := Fr.snoc D119.st N118 (Nat.le_trans (Nat.le_trans Z0 E116.1) (Nat.le_of_eq g117.symm))
  refine g_callN D119 53 rfl (hw _ w_8) (hw _ w_9) (hw _ w_10) (by decide) (StrChars.Road.backV (W := 1) D119.wm (fun d hd => hw d (wbv d hd)) (kI := 4) (hw _ w_5) (cs := [c0, c1]) (bs := ([c0, c1].map StrChars.lo8)) (n := 2) (n0 := n0) (Nat.le_trans Z0 (Nat.le_of_eq g116.symm)) (Nat.le_trans (Nat.le_trans (Nat.le_trans (Nat.le_trans Z0 E116.1) E117.1) (Keep.of_wr W118).1) (Keep.of_wr W119).1) (((A116.ext E117).wr W118).wr W119) ((((N116 (Or.inr (hw _ w_20)) (ty := (.array .byte)) (by decide)).ext E117).other W118 (Or.inl (Nat.ne_of_lt (Nat.lt_of_lt_of_le A116.lt (Nat.le_of_eq g117.symm))))).other W119 (Or.inl (Nat.ne_of_lt (Nat.lt_of_lt_of_le A116.lt (Nat.le_of_eq g117.symm))))) ((((N116 (Or.inr (hw _ w_21)) (ty := .byte) (by decide)).ext E117).other W118 (Or.inl (Nat.ne_of_lt (Nat.lt_of_lt_of_le A116.lt (Nat.le_of_eq g117.symm))))).other W119 (Or.inl (Nat.ne_of_lt (Nat.lt_of_lt_of_le A116.lt (Nat.le_of_eq g117.symm))))) V119 (CS.ext ((((OLD.ext E116).ext E117).wr W118 (Nat.le_trans (Nat.le_trans Z0 E116.1) (Nat.le_of_eq g117.symm))).wr W119 (Nat.le_trans (Nat.le_trans Z0 E116.1) (Nat.le_of_eq g117.symm))).2) hzc rfl rfl (by decide) (by decide) (b8_cons b0 (b8_cons b1 b8_nil)) rfl (by decide) (by decide)) rfl [(.ref a117)] rfl (lenOf pd_1 rfl) rfl (Nat.le_of_eq rfl) (by decide) (by decide) (fun _ _ _ q => D119.iv.keep (sfS (safe_null D119.wm.alike (((A116.ext E117).wr W118).wr W119) ((((N116 (Or.inr (hw _ w_20)) (ty := (.array .byte)) (by decide)).ext E117).other W118 (Or.inl (Nat.ne_of_lt (Nat.lt_of_lt_of_le A116.lt (Nat.le_of_eq g117.symm))))).other W119 (Or.inl (Nat.ne_of_lt (Nat.lt_of_lt_of_le A116.lt (Nat.le_of_eq g117.symm)))))) sf0) q.2.2.1) d_method_2_50 rfl ?_
  intro v120 T120 h120 L120 q120 D120
  obtain ⟨rfl, N120, K120, A120, C120, t120, kb120, -, -, -, Vf120, Va120⟩ := q120
  have NF120 := Fr.app N119 N120
  have X120 : LS Z h120 a116 [c0, c1] := ⟨t120, kb120, A120, C120, Vf120, Va120, (b8_cons b0 (b8_cons b1 b8_nil)), Nat.le_of_ble_eq_true rfl⟩
  show Go p e below _ (T120.setTop (mkF m 53 #[.val (.int n), .val (.int c0), .val (.int c1)] [(.ref a116)]))
  exact r_Aw D120 hEW hret rfl rfl hlk d_method_2_53 ⟨a116, rfl, NF120, Keep.toExt ((((((Keep.refl _ []).ext E116).ext E117).wr W118 (Or.inr (Nat.le_trans (Nat.le_trans (Nat.le_refl _) E116.1) (Nat.le_of_eq g117.symm)))).wr W119 (Or.inr (Nat.le_trans (Nat.le_trans (Nat.le_refl _) E116.1) (Nat.le_of_eq g117.symm)))).trans K120 (allS (Or.inr (Nat.le_trans (Nat.le_refl _) (Nat.le_of_eq g116.symm))) all0)), by rw [show own_str n c0 c1 = [c0, c1] from by simp [own_str, z0, z1]]; exact X120⟩ (by decide) (by decide)
def Q_cRec (Z : State) (b : Addr) (h0 : Heap) (n0 : Nat) : Option Value → Heap → List Loc → Prop := (fun v h L => v = none ∧ Fr n0 L ∧ Keep h0 h [])
set_option maxRecDepth 65536 in
set_option maxHeartbeats 40000000 in
theorem cRec (l : Launch) (Z : State) (a0 : Array Value) (hw : ∀ d ∈ tables_1, d.before a0 Z = true) (ws : List Jvm.Cond) (b : Addr) (h0 : Heap) (n0 : Nat) (Z0 : n0 ≤ h0.size)  :
    Con l (⟨"java/lang/Record", "<init>", "()V"⟩ : MethodName) jdk_30_method_1_code 1 none ws ({ frames := 1, cells := 0, slots := 0, locals := 12 } : Room) Z #[(.ref b)] h0 (Q_cRec Z b h0 n0) 0 0 := by
  refine enter (plainFor_of_name pn_2) ?_
  intro p e s m below meth c s₁ hnm hret hlk D0
  rw [ef_cRec m b]
  refine g_aloadN D0 1 d_jdk_30m1_0 rfl rfl rfl ?_
  refine g_initO D0 4 (hw _ w_48) (hw _ w_16) (hw _ w_17) rfl d_jdk_30m1_1 (by decide) (W := 0) (Nat.le_of_eq rfl) (by decide) rfl ?_
  intro T121 D121
  exact r_V D121 hret hlk d_jdk_30m1_4 ⟨rfl, Fr.nil n0, Keep.refl _ []⟩ (by decide) (by decide)
def Q_cRI_r (Z : State) (b r u : Addr) (h0 : Heap) (n0 : Nat) : Option Value → Heap → List Loc → Prop := (fun v h L => v = none ∧ Fr n0 L ∧ Keep h0 h [b] ∧ Exa Z h b "com/example/pactum/pactum/model/ResourceLogin" ∧ Fld Z h b "com/example/pactum/pactum/model/ResourceLogin" "resource" "Ljava/lang/String;" (.ref r) ∧ Fld Z h b "com/example/pactum/pactum/model/ResourceLogin" "user" "Ljava/lang/String;" (.ref u))
set_option maxRecDepth 65536 in
set_option maxHeartbeats 40000000 in
theorem cRI_r (l : Launch) (Z : State) (a0 : Array Value) (hw : ∀ d ∈ tables_1, d.before a0 Z = true) (ws : List Jvm.Cond) (b r u : Addr) (h0 : Heap) (n0 : Nat) (Z0 : n0 ≤ h0.size) (E_b : Exa Z h0 b "com/example/pactum/pactum/model/ResourceLogin") (F1 : Fld Z h0 b "com/example/pactum/pactum/model/ResourceLogin" "resource" "Ljava/lang/String;" .null) (F2 : Fld Z h0 b "com/example/pactum/pactum/model/ResourceLogin" "user" "Ljava/lang/String;" .null) (gb : n0 ≤ b) :
    Con l (⟨"com/example/pactum/pactum/model/ResourceLogin", "<init>", "(Ljava/lang/String;Ljava/lang/String;)V"⟩ : MethodName) prog_9_method_1_code 3 none ws ({ frames := 2, cells := 0, slots := 0, locals := 24 } : Room) Z #[(.ref b), (.ref r), (.ref u)] h0 (Q_cRI_r Z b r u h0 n0) 0 0 := by
  refine enter (plainFor_of_name pn_3) ?_
  intro p e s m below meth c s₁ hnm hret hlk D0
  rw [ef_cRI_r m b r u]
  refine g_aloadN D0 1 d_prog_9m1_0 rfl rfl rfl ?_
  refine g_callN D0 4 rfl (hw _ w_43) (hw _ w_44) (hw _ w_47) (by decide) ((cRec l Z a0 hw [] b h0 n0 Z0).back D0 0 (hw _ w_47) (hw _ w_46) (by decide) (by decide)) rfl [] rfl (lenOf pd_2 rfl) rfl (Nat.le_of_eq rfl) (by decide) (by decide) (fun _ _ _ _ => trivial) d_prog_9m1_1 rfl ?_
  intro v122 T122 h122 L122 q122 D122
  obtain ⟨rfl, N122, K122⟩ := q122
  have NF122 := Fr.app (Fr.nil n0) N122
  show Go p e below _ (T122.setTop (mkF m 4 #[.val (.ref b), .val (.ref r), .val (.ref u)] []))
  refine g_aloadN D122 5 d_prog_9m1_4 rfl rfl rfl ?_
  refine g_aloadN D122 6 d_prog_9m1_5 rfl rfl rfl ?_
  refine g_putF D122 9 (hw _ w_49) Via.refl (F1.keep K122 nin0) (E_b.keep K122) (Or.inr ⟨(hw _ w_50), rfl, hnm⟩) (hw _ w_38) (ty := (.object "java/lang/String")) (by decide) rfl rfl (fun _ _ => trivial) d_prog_9m1_6 rfl ?_
  intro T123 h123 W123 D123
  have N123 := Fr.snoc D123.st NF122 gb
  have F123 := (F1.keep K122 nin0).same W123
  refine g_aloadN D123 10 d_prog_9m1_9 rfl rfl rfl ?_
  refine g_aloadN D123 11 d_prog_9m1_10 rfl rfl rfl ?_
  refine g_putF D123 14 (hw _ w_51) Via.refl ((F2.keep K122 nin0).other W123 (Or.inr (slot_ne (Or.inr (hw _ w_52)) (Or.inr (hw _ w_50)) (by decide) (t := (.object "java/lang/String")) (t' := (.object "java/lang/String")) (by decide) (by decide)))) ((E_b.keep K122).wr W123) (Or.inr ⟨(hw _ w_52), rfl, hnm⟩) (hw _ w_38) (ty := (.object "java/lang/String")) (by decide) rfl rfl (fun _ _ => trivial) d_prog_9m1_11 rfl ?_
  intro T124 h124 W124 D124
  have N124 := Fr.snoc D124.st N123 gb
  have F124 := ((F2.keep K122 nin0).other W123 (Or.inr (slot_ne (Or.inr (hw _ w_52)) (Or.inr (hw _ w_50)) (by decide) (t := (.object "java/lang/String")) (t' := (.object "java/lang/String")) (by decide) (by decide)))).same W124
  exact r_V D124 hret hlk d_prog_9m1_14 ⟨rfl, N124, ((((Keep.refl _ [b]).trans K122 all0).wr W123 (Or.inl (List.mem_of_getElem? (i := 0) rfl))).wr W124 (Or.inl (List.mem_of_getElem? (i := 0) rfl))), (((E_b.keep K122).wr W123).wr W124), (F123.other W124 (Or.inr (slot_ne (Or.inr (hw _ w_50)) (Or.inr (hw _ w_52)) (by decide) (t := (.object "java/lang/String")) (t' := (.object "java/lang/String")) (by decide) (by decide)))), F124⟩ (by decide) (by decide)
def Q_cRI_n (Z : State) (b r : Addr) (h0 : Heap) (n0 : Nat) : Option Value → Heap → List Loc → Prop := (fun v h L => v = none ∧ Fr n0 L ∧ Keep h0 h [b] ∧ Exa Z h b "com/example/pactum/pactum/model/ResourceLogin" ∧ Fld Z h b "com/example/pactum/pactum/model/ResourceLogin" "resource" "Ljava/lang/String;" (.ref r) ∧ Fld Z h b "com/example/pactum/pactum/model/ResourceLogin" "user" "Ljava/lang/String;" .null)
set_option maxRecDepth 65536 in
set_option maxHeartbeats 40000000 in
theorem cRI_n (l : Launch) (Z : State) (a0 : Array Value) (hw : ∀ d ∈ tables_1, d.before a0 Z = true) (ws : List Jvm.Cond) (b r : Addr) (h0 : Heap) (n0 : Nat) (Z0 : n0 ≤ h0.size) (E_b : Exa Z h0 b "com/example/pactum/pactum/model/ResourceLogin") (F1 : Fld Z h0 b "com/example/pactum/pactum/model/ResourceLogin" "resource" "Ljava/lang/String;" .null) (F2 : Fld Z h0 b "com/example/pactum/pactum/model/ResourceLogin" "user" "Ljava/lang/String;" .null) (gb : n0 ≤ b) :
    Con l (⟨"com/example/pactum/pactum/model/ResourceLogin", "<init>", "(Ljava/lang/String;Ljava/lang/String;)V"⟩ : MethodName) prog_9_method_1_code 3 none ws ({ frames := 2, cells := 0, slots := 0, locals := 24 } : Room) Z #[(.ref b), (.ref r), .null] h0 (Q_cRI_n Z b r h0 n0) 0 0 := by
  refine enter (plainFor_of_name pn_3) ?_
  intro p e s m below meth c s₁ hnm hret hlk D0
  rw [ef_cRI_n m b r]
  refine g_aloadN D0 1 d_prog_9m1_0 rfl rfl rfl ?_
  refine g_callN D0 4 rfl (hw _ w_43) (hw _ w_44) (hw _ w_47) (by decide) ((cRec l Z a0 hw [] b h0 n0 Z0).back D0 0 (hw _ w_47) (hw _ w_46) (by decide) (by decide)) rfl [] rfl (lenOf pd_2 rfl) rfl (Nat.le_of_eq rfl) (by decide) (by decide) (fun _ _ _ _ => trivial) d_prog_9m1_1 rfl ?_
  intro v125 T125 h125 L125 q125 D125
  obtain ⟨rfl, N125, K125⟩ := q125
  have NF125 := Fr.app (Fr.nil n0) N125
  show Go p e below _ (T125.setTop (mkF m 4 #[.val (.ref b), .val (.ref r), .val .null] []))
  refine g_aloadN D125 5 d_prog_9m1_4 rfl rfl rfl ?_
  refine g_aloadN D125 6 d_prog_9m1_5 rfl rfl rfl ?_
  refine g_putF D125 9 (hw _ w_49) Via.refl (F1.keep K125 nin0) (E_b.keep K125) (Or.inr ⟨(hw _ w_50), rfl, hnm⟩) (hw _ w_38) (ty := (.object "java/lang/String")) (by decide) rfl rfl (fun _ _ => trivial) d_prog_9m1_6 rfl ?_
  intro T126 h126 W126 D126
  have N126 := Fr.snoc D126.st NF125 gb
  have F126 := (F1.keep K125 nin0).same W126
  refine g_aloadN D126 10 d_prog_9m1_9 rfl rfl rfl ?_
  refine g_aloadN D126 11 d_prog_9m1_10 rfl rfl rfl ?_
  refine g_putF D126 14 (hw _ w_51) Via.refl ((F2.keep K125 nin0).other W126 (Or.inr (slot_ne (Or.inr (hw _ w_52)) (Or.inr (hw _ w_50)) (by decide) (t := (.object "java/lang/String")) (t' := (.object "java/lang/String")) (by decide) (by decide)))) ((E_b.keep K125).wr W126) (Or.inr ⟨(hw _ w_52), rfl, hnm⟩) (hw _ w_38) (ty := (.object "java/lang/String")) (by decide) rfl rfl (fun _ _ => trivial) d_prog_9m1_11 rfl ?_
  intro T127 h127 W127 D127
  have N127 := Fr.snoc D127.st N126 gb
  have F127 := ((F2.keep K125 nin0).other W126 (Or.inr (slot_ne (Or.inr (hw _ w_52)) (Or.inr (hw _ w_50)) (by decide) (t := (.object "java/lang/String")) (t' := (.object "java/lang/String")) (by decide) (by decide)))).same W127
  exact r_V D127 hret hlk d_prog_9m1_14 ⟨rfl, N127, ((((Keep.refl _ [b]).trans K125 all0).wr W126 (Or.inl (List.mem_of_getElem? (i := 0) rfl))).wr W127 (Or.inl (List.mem_of_getElem? (i := 0) rfl))), (((E_b.keep K125).wr W126).wr W127), (F126.other W127 (Or.inr (slot_ne (Or.inr (hw _ w_50)) (Or.inr (hw _ w_52)) (by decide) (t := (.object "java/lang/String")) (t' := (.object "java/lang/String")) (by decide) (by decide)))), F127⟩ (by decide) (by decide)
def Q_cABI (Z : State) (b : Addr) (zc : Int32) (h0 : Heap) (n0 : Nat) : Option Value → Heap → List Loc → Prop := (fun v h L => v = none ∧ Fr n0 L ∧ Keep h0 h [b] ∧ ∃ t kt, h0.size ≤ t ∧ Exa Z h b "java/lang/StringBuilder" ∧ Fld Z h b "java/lang/AbstractStringBuilder" "value" "[B" (.ref t) ∧ Fld Z h b "java/lang/AbstractStringBuilder" "coder" "B" (.int (0 : Int32)) ∧ Fld Z h b "java/lang/AbstractStringBuilder" "count" "I" (.int (0 : Int32)) ∧ Arv Z h t kt .byte (16 : Int32) (List.replicate 16 (.int (0 : Int32))) (.int (0 : Int32)))
set_option maxRecDepth 65536 in
set_option maxHeartbeats 40000000 in
theorem cABI (l : Launch) (Z : State) (a0 : Array Value) (hw : ∀ d ∈ tables_1, d.before a0 Z = true) (ws : List Jvm.Cond) (b : Addr) (zc : Int32) (h0 : Heap) (n0 : Nat) (Z0 : n0 ≤ h0.size) (OLD : Old Z n0 h0) (CS : Sta Z Z.heap "java/lang/String" "COMPACT_STRINGS" "Z" (.int zc)) (hzc : ¬ zc = 0) (E_b : Exa Z h0 b "java/lang/StringBuilder") (F_v : Fld Z h0 b "java/lang/AbstractStringBuilder" "value" "[B" .null) (F_c : Fld Z h0 b "java/lang/AbstractStringBuilder" "coder" "B" (.int (0 : Int32))) (F_n : Fld Z h0 b "java/lang/AbstractStringBuilder" "count" "I" (.int (0 : Int32))) (gb : n0 ≤ b) :
    Con l (⟨"java/lang/AbstractStringBuilder", "<init>", "(I)V"⟩ : MethodName) jdk_68_method_2_code 2 none ws ({ frames := 1, cells := 1, slots := 16, locals := 12 } : Room) Z #[(.ref b), (.int (16 : Int32))] h0 (Q_cABI Z b zc h0 n0) 1 16 := by
  refine enter (plainFor_of_name pn_4) ?_
  intro p e s m below meth c s₁ hnm hret hlk D0
  rw [ef_cABI m b]
  refine g_aloadN D0 1 d_jdk_68m2_0 rfl rfl rfl ?_
  refine g_initO D0 4 (hw _ w_70) (hw _ w_16) (hw _ w_17) rfl d_jdk_68m2_1 (by decide) (W := 0) (Nat.le_of_eq rfl) (by decide) rfl ?_
  intro T128 D128
  refine g_getS D128 7 (hw _ w_71) Via.refl (CS.ext OLD.2) d_jdk_68m2_4 rfl ?_
  intro T129 D129
  refine g_ifN D129 10 d_jdk_68m2_7 (feq hzc).1 rfl ?_
  refine g_aloadN D129 11 d_jdk_68m2_10 rfl rfl rfl ?_
  refine g_iloadN D129 12 d_jdk_68m2_11 rfl rfl ?_
  refine g_newP D129 14 (aty := .byte) (hw _ w_19) d_jdk_68m2_12 (by decide) (cap := 16) (by decide) (by decide) (by decide) (by decide) (fun _ _ => trivial) rfl ?_
  intro T130 h130 a130 k130 g130 E130 V130 D130
  refine g_putF D130 17 (hw _ w_72) Via.refl (F_v.ext E130) (E_b.ext E130) (Or.inl (hw _ w_73)) (hw _ w_59) (ty := (.array .byte)) (by decide) rfl rfl (fun _ _ => trivial) d_jdk_68m2_14 rfl ?_
  intro T131 h131 W131 D131
  have N131 := Fr.snoc D131.st (Fr.nil n0) gb
  have F131 := (F_v.ext E130).same W131
  refine g_aloadN D131 18 d_jdk_68m2_17 rfl rfl rfl ?_
  refine g_iconst D131 19 (0 : Int32) d_jdk_68m2_18 rfl rfl ?_
  refine g_putF D131 22 (hw _ w_74) Via.refl ((F_c.ext E130).other W131 (Or.inr (slot_ne (Or.inl (hw _ w_75)) (Or.inl (hw _ w_73)) (by decide) (t := .byte) (t' := (.array .byte)) (by decide) (by decide)))) ((E_b.ext E130).wr W131) (Or.inl (hw _ w_75)) (hw _ w_59) (ty := .byte) (by decide) rfl rfl (fun _ _ => trivial) d_jdk_68m2_19 rfl ?_
  intro T132 h132 W132 D132
  have N132 := Fr.snoc D132.st N131 gb
  have F132 := ((F_c.ext E130).other W131 (Or.inr (slot_ne (Or.inl (hw _ w_75)) (Or.inl (hw _ w_73)) (by decide) (t := .byte) (t' := (.array .byte)) (by decide) (by decide)))).same W132
  refine g_goto D132 38 d_jdk_68m2_22 (by decide) (by decide) ?_
  exact r_V D132 hret hlk d_jdk_68m2_38 ⟨rfl, N132, ((((Keep.refl _ [b]).ext E130).wr W131 (Or.inl (List.mem_of_getElem? (i := 0) rfl))).wr W132 (Or.inl (List.mem_of_getElem? (i := 0) rfl))), a130, _, (Nat.le_trans (Nat.le_refl _) (Nat.le_of_eq g130.symm)), (((E_b.ext E130).wr W131).wr W132), (F131.other W132 (Or.inr (slot_ne (Or.inl (hw _ w_73)) (Or.inl (hw _ w_75)) (by decide) (t := (.array .byte)) (t' := .byte) (by decide) (by decide)))), F132, (((F_n.ext E130).other W131 (Or.inr (slot_ne (Or.inl (hw _ w_97)) (Or.inl (hw _ w_73)) (by decide) (t := .int) (t' := (.array .byte)) (by decide) (by decide)))).other W132 (Or.inr (slot_ne (Or.inl (hw _ w_97)) (Or.inl (hw _ w_75)) (by decide) (t := .int) (t' := .byte) (by decide) (by decide)))), ((V130.other W131 (Ne.symm (Nat.ne_of_lt (Nat.lt_of_lt_of_le E_b.lt (Nat.le_of_eq g130.symm))))).other W132 (Ne.symm (Nat.ne_of_lt (Nat.lt_of_lt_of_le E_b.lt (Nat.le_of_eq g130.symm))))).pad (pad_rep [] _ 16)⟩ (by decide) (by decide)
def Q_cSBI (Z : State) (b : Addr) (zc : Int32) (h0 : Heap) (n0 : Nat) : Option Value → Heap → List Loc → Prop := (fun v h L => v = none ∧ Fr n0 L ∧ Keep h0 h [b] ∧ ∃ t kt, h0.size ≤ t ∧ Exa Z h b "java/lang/StringBuilder" ∧ Fld Z h b "java/lang/AbstractStringBuilder" "value" "[B" (.ref t) ∧ Fld Z h b "java/lang/AbstractStringBuilder" "coder" "B" (.int (0 : Int32)) ∧ Fld Z h b "java/lang/AbstractStringBuilder" "count" "I" (.int (0 : Int32)) ∧ Arv Z h t kt .byte (16 : Int32) (List.replicate 16 (.int (0 : Int32))) (.int (0 : Int32)))
set_option maxRecDepth 65536 in
set_option maxHeartbeats 40000000 in
theorem cSBI (l : Launch) (Z : State) (a0 : Array Value) (hw : ∀ d ∈ tables_1, d.before a0 Z = true) (ws : List Jvm.Cond) (b : Addr) (zc : Int32) (h0 : Heap) (n0 : Nat) (Z0 : n0 ≤ h0.size) (OLD : Old Z n0 h0) (CS : Sta Z Z.heap "java/lang/String" "COMPACT_STRINGS" "Z" (.int zc)) (hzc : ¬ zc = 0) (E_b : Exa Z h0 b "java/lang/StringBuilder") (F_v : Fld Z h0 b "java/lang/AbstractStringBuilder" "value" "[B" .null) (F_c : Fld Z h0 b "java/lang/AbstractStringBuilder" "coder" "B" (.int (0 : Int32))) (F_n : Fld Z h0 b "java/lang/AbstractStringBuilder" "count" "I" (.int (0 : Int32))) (gb : n0 ≤ b) :
    Con l (⟨"java/lang/StringBuilder", "<init>", "()V"⟩ : MethodName) jdk_67_method_1_code 1 none ws ({ frames := 2, cells := 1, slots := 16, locals := 25 } : Room) Z #[(.ref b)] h0 (Q_cSBI Z b zc h0 n0) 1 16 := by
  refine enter (plainFor_of_name pn_5) ?_
  intro p e s m below meth c s₁ hnm hret hlk D0
  rw [ef_cSBI m b]
  refine g_aloadN D0 1 d_jdk_67m1_0 rfl rfl rfl ?_
  refine g_bipush D0 3 (16 : Int32) d_jdk_67m1_1 rfl rfl ?_
  refine g_callN D0 6 rfl (hw _ w_64) (hw _ w_65) (hw _ w_69) (by decide) ((cABI l Z a0 hw [] b zc h0 n0 Z0 OLD CS hzc E_b F_v F_c F_n gb).back D0 0 (hw _ w_69) (hw _ w_68) (by decide) (by decide)) rfl [(.int (16 : Int32))] rfl (lenOf pd_3 rfl) rfl (Nat.le_of_eq rfl) (by decide) (by decide) (fun _ _ _ _ => trivial) d_jdk_67m1_3 rfl ?_
  intro v133 T133 h133 L133 q133 D133
  obtain ⟨rfl, N1, K1, X1⟩ := q133
  rw [List.nil_append] at D133
  show Go p e below _ (T133.setTop (mkF m 6 #[.val (.ref b)] []))
  exact r_V D133 hret hlk d_jdk_67m1_6 ⟨rfl, N1, K1, X1⟩ (by decide) (by decide)
set_option maxRecDepth 65536 in
set_option maxHeartbeats 40000000 in
theorem cEn (l : Launch) (Z : State) (a0 : Array Value) (hw : ∀ d ∈ tables_1, d.before a0 Z = true) (ws : List Jvm.Cond) (b t : Addr) (kt : ClassId) (vs : List Value) (n : Int32) (h0 : Heap) (n0 : Nat) (Z0 : n0 ≤ h0.size) (F_v : Fld Z h0 b "java/lang/AbstractStringBuilder" "value" "[B" (.ref t)) (F_c : Fld Z h0 b "java/lang/AbstractStringBuilder" "coder" "B" (.int (0 : Int32))) (V_t : Arv Z h0 t kt .byte (16 : Int32) vs (.int (0 : Int32))) (hn : ¬ (0 : Int32) < (n - (16 : Int32))) :
    Con l (⟨"java/lang/AbstractStringBuilder", "ensureCapacityInternal", "(I)V"⟩ : MethodName) jdk_68_method_9_code 3 none ws ({ frames := 0, cells := 0, slots := 0, locals := 0 } : Room) Z #[(.ref b), (.int n)] h0 (fun v h L => v = none ∧ L = [] ∧ h = h0) 0 0 := by
  refine enter (plainFor_of_name pn_4) ?_
  intro p e s m below meth c s₁ hnm hret hlk D0
  rw [ef_cEn m b n]
  refine g_aloadN D0 1 d_jdk_68m9_0 rfl rfl rfl ?_
  refine g_getF D0 4 (hw _ w_72) Via.refl F_v d_jdk_68m9_1 rfl ?_
  intro T134 D134
  refine g_alen D134 5 V_t d_jdk_68m9_4 rfl ?_
  refine g_aloadN D134 6 d_jdk_68m9_5 rfl rfl rfl ?_
  refine g_getF D134 9 (hw _ w_74) Via.refl F_c d_jdk_68m9_6 rfl ?_
  intro T135 D135
  refine g_ishr D135 10 d_jdk_68m9_9 rfl ?_
  rw [show ((16 : Int32) >>> ((0 : Int32) &&& 31)) = (16 : Int32) from by decide]
  refine g_istoreN D135 11 #[.val (.ref b), .val (.int n), .val (.int (16 : Int32))] d_jdk_68m9_10 rfl rfl ?_
  refine g_iloadN D135 12 d_jdk_68m9_11 rfl rfl ?_
  refine g_iloadN D135 13 d_jdk_68m9_12 rfl rfl ?_
  refine g_isub D135 14 d_jdk_68m9_13 rfl ?_
  refine g_ifY D135 38 d_jdk_68m9_14 (flt hn).2.2.2 (by decide) (by decide) ?_
  exact r_V D135 hret hlk d_jdk_68m9_38 ⟨rfl, rfl, rfl⟩ (by decide) (by decide)
set_option maxRecDepth 65536 in
set_option maxHeartbeats 40000000 in
theorem cCo (l : Launch) (Z : State) (a0 : Array Value) (hw : ∀ d ∈ tables_1, d.before a0 Z = true) (ws : List Jvm.Cond) (g : Addr) (zc : Int32) (h0 : Heap) (n0 : Nat) (Z0 : n0 ≤ h0.size) (OLD : Old Z n0 h0) (CS : Sta Z Z.heap "java/lang/String" "COMPACT_STRINGS" "Z" (.int zc)) (hzc : ¬ zc = 0) (F_sc : Fld Z h0 g "java/lang/String" "coder" "B" (.int (0 : Int32))) :
    Con l (⟨"java/lang/String", "coder", "()B"⟩ : MethodName) jdk_42_method_152_code 1 (some .byte) ws ({ frames := 0, cells := 0, slots := 0, locals := 0 } : Room) Z #[(.ref g)] h0 (fun v h L => v = some (.int (0 : Int32)) ∧ L = [] ∧ h = h0) 0 0 := by
  refine enter (plainFor_of_name pn_0) ?_
  intro p e s m below meth c s₁ hnm hret hlk D0
  rw [ef_cCo m g]
  refine g_getS D0 3 (hw _ w_26) Via.refl (CS.ext OLD.2) d_jdk_42m152_0 rfl ?_
  intro T136 D136
  refine g_ifN D136 6 d_jdk_42m152_3 (feq hzc).1 rfl ?_
  refine g_aloadN D136 7 d_jdk_42m152_6 rfl rfl rfl ?_
  refine g_getF D136 10 (hw _ w_25) Via.refl F_sc d_jdk_42m152_7 rfl ?_
  intro T137 D137
  refine g_goto D137 14 d_jdk_42m152_10 (by decide) (by decide) ?_
  exact r_N D137 hret (by simp) hlk d_jdk_42m152_14 ⟨(by decide : some (Value.int (nar .byte (0 : Int32))) = some (.int 0)), rfl, rfl⟩ (by decide) (by decide)
set_option maxRecDepth 65536 in
set_option maxHeartbeats 40000000 in
theorem cInf (l : Launch) (Z : State) (a0 : Array Value) (hw : ∀ d ∈ tables_1, d.before a0 Z = true) (ws : List Jvm.Cond) (b g : Addr) (zc : Int32) (h0 : Heap) (n0 : Nat) (Z0 : n0 ≤ h0.size) (OLD : Old Z n0 h0) (CS : Sta Z Z.heap "java/lang/String" "COMPACT_STRINGS" "Z" (.int zc)) (hzc : ¬ zc = 0) (F_c : Fld Z h0 b "java/lang/AbstractStringBuilder" "coder" "B" (.int (0 : Int32))) (E_s : Exa Z h0 g "java/lang/String") (F_sc : Fld Z h0 g "java/lang/String" "coder" "B" (.int (0 : Int32))) :
    Con l (⟨"java/lang/AbstractStringBuilder", "inflateIfNeededFor", "(Ljava/lang/String;)V"⟩ : MethodName) jdk_68_method_71_code 2 none ws ({ frames := 1, cells := 0, slots := 0, locals := 13 } : Room) Z #[(.ref b), (.ref g)] h0 (fun v h L => v = none ∧ L = [] ∧ h = h0) 0 0 := by
  refine enter (plainFor_of_name pn_4) ?_
  intro p e s m below meth c s₁ hnm hret hlk D0
  rw [ef_cInf m b g]
  refine g_getS D0 3 (hw _ w_71) Via.refl (CS.ext OLD.2) d_jdk_68m71_0 rfl ?_
  intro T138 D138
  refine g_ifN D138 6 d_jdk_68m71_3 (feq hzc).1 rfl ?_
  refine g_aloadN D138 7 d_jdk_68m71_6 rfl rfl rfl ?_
  refine g_getF D138 10 (hw _ w_74) Via.refl F_c d_jdk_68m71_7 rfl ?_
  intro T139 D139
  refine g_aloadN D139 11 d_jdk_68m71_10 rfl rfl rfl ?_
  refine g_callVp D139 14 (hw _ w_113) (hw _ w_92) (notFace_of_selects (args := #[]) (mvT D139.wm (hw _ w_94))) (hw _ w_94) (hw _ w_93) (by decide) ((cCo l Z a0 hw [] g zc h0 n0 Z0 OLD CS hzc F_sc).back D139 1 (hw _ w_95) (hw _ w_6) (by decide) (by decide)) E_s rfl [] rfl (lenOf pd_4 rfl) rfl (Nat.le_of_eq rfl) (by decide) (by decide) d_jdk_68m71_11 rfl ?_
  intro v140 T140 q140 D140
  subst q140
  show Go p e below _ (T140.setTop (mkF m 14 #[.val (.ref b), .val (.ref g)] [(.int (0 : Int32)), (.int (0 : Int32))]))
  refine g_icmpY D140 21 d_jdk_68m71_14 (by decide) (by decide) (by decide) ?_
  exact r_V D140 hret hlk d_jdk_68m71_21 ⟨rfl, rfl, rfl⟩ (by decide) (by decide)
def Q_cGB (Z : State) (g t ts : Addr) (kt ks : ClassId) (vs : List Value) (ds : List Int32) (k : Nat) (zc : Int32) (h0 : Heap) (n0 : Nat) : Option Value → Heap → List Loc → Prop := (fun v h L => v = none ∧ Fr n0 L ∧ Keep h0 h [t] ∧ Arv Z h t kt .byte (16 : Int32) (vs.take k ++ ((ds.map StrChars.lo8).map Value.int) ++ vs.drop (k + ds.length)) (.int (0 : Int32)))
set_option maxRecDepth 65536 in
set_option maxHeartbeats 40000000 in
theorem cGB (l : Launch) (Z : State) (a0 : Array Value) (hw : ∀ d ∈ tables_1, d.before a0 Z = true) (ws : List Jvm.Cond) (g t ts : Addr) (kt ks : ClassId) (vs : List Value) (ds : List Int32) (k : Nat) (zc : Int32) (h0 : Heap) (n0 : Nat) (Z0 : n0 ≤ h0.size) (OLD : Old Z n0 h0) (CS : Sta Z Z.heap "java/lang/String" "COMPACT_STRINGS" "Z" (.int zc)) (hzc : ¬ zc = 0) (E_s : Exa Z h0 g "java/lang/String") (F_sc : Fld Z h0 g "java/lang/String" "coder" "B" (.int (0 : Int32))) (F_sv : Fld Z h0 g "java/lang/String" "value" "[B" (.ref ts)) (A_s : Arv Z h0 ts ks .byte (Int32.ofNat ds.length) ((ds.map StrChars.lo8).map Value.int) (.int (0 : Int32))) (V_t : Arv Z h0 t kt .byte (16 : Int32) vs (.int (0 : Int32))) (hv : vs.length = 16) (hk : k + ds.length ≤ 16) (gt : n0 ≤ t) :
    Con l (⟨"java/lang/String", "getBytes", "([BIB)V"⟩ : MethodName) jdk_42_method_147_code 4 none ws ({ frames := 1, cells := 0, slots := 0, locals := 64 } : Room) Z #[(.ref g), (.ref t), (.int (Int32.ofNat k)), (.int (0 : Int32))] h0 (Q_cGB Z g t ts kt ks vs ds k zc h0 n0) 0 0 := by
  refine enter (plainFor_of_name pn_0) ?_
  intro p e s m below meth c s₁ hnm hret hlk D0
  rw [ef_cGB m g t (Int32.ofNat k)]
  refine g_aloadN D0 1 d_jdk_42m147_0 rfl rfl rfl ?_
  refine g_callVp D0 4 (hw _ w_91) (hw _ w_92) (notFace_of_selects (args := #[]) (mvT D0.wm (hw _ w_94))) (hw _ w_94) (hw _ w_93) (by decide) ((cCo l Z a0 hw [] g zc h0 n0 Z0 OLD CS hzc F_sc).back D0 0 (hw _ w_95) (hw _ w_6) (by decide) (by decide)) E_s rfl [] rfl (lenOf pd_4 rfl) rfl (Nat.le_of_eq rfl) (by decide) (by decide) d_jdk_42m147_1 rfl ?_
  intro v141 T141 q141 D141
  subst q141
  show Go p e below _ (T141.setTop (mkF m 4 #[.val (.ref g), .val (.ref t), .val (.int (Int32.ofNat k)), .val (.int (0 : Int32))] [(.int (0 : Int32))]))
  refine g_iloadN D141 5 d_jdk_42m147_4 rfl rfl ?_
  refine g_icmpN D141 8 d_jdk_42m147_5 (by decide) rfl ?_
  refine g_aloadN D141 9 d_jdk_42m147_8 rfl rfl rfl ?_
  refine g_getF D141 12 (hw _ w_24) Via.refl F_sv d_jdk_42m147_9 rfl ?_
  intro T142 D142
  refine g_iconst D142 13 (0 : Int32) d_jdk_42m147_12 rfl rfl ?_
  refine g_aloadN D142 14 d_jdk_42m147_13 rfl rfl rfl ?_
  refine g_iloadN D142 15 d_jdk_42m147_14 rfl rfl ?_
  refine g_iloadN D142 16 d_jdk_42m147_15 rfl rfl ?_
  refine g_ishl D142 17 d_jdk_42m147_16 rfl ?_
  rw [own_sl0]
  refine g_aloadN D142 18 d_jdk_42m147_17 rfl rfl rfl ?_
  refine g_getF D142 21 (hw _ w_24) Via.refl F_sv d_jdk_42m147_18 rfl ?_
  intro T143 D143
  refine g_alen D143 22 A_s d_jdk_42m147_21 rfl ?_
  have e1 := own_clamp (show k ≤ 4000 by omega)
  have e2 := own_clamp (show ds.length ≤ 4000 by omega)
  refine g_cpA D143 25 (hw _ w_119) (hw _ w_122) (hw _ w_120) (hw _ w_121) ((ds.map StrChars.lo8).map Value.int) A_s V_t rfl (by decide) (own_nneg (by omega)) (own_nneg (by omega)) (by rw [e2]; exact Nat.le_of_eq (Nat.zero_add _)) (by rw [e1, e2]; exact hk) (own_us' (by omega) (by simp)) (by rw [e1, e2, hv]; exact hk) (Fr.nil n0) gt rfl d_jdk_42m147_22 (by decide) (W := 0) (Nat.le_of_eq rfl) (by decide) (fun _ _ => trivial) rfl ?_
  intro T144 h144 L144 N144 K144 V144 D144
  rw [e1, e2] at V144
  refine g_goto D144 43 d_jdk_42m147_25 (by decide) (by decide) ?_
  exact r_V D144 hret hlk d_jdk_42m147_43 ⟨rfl, N144, ((Keep.refl _ [t]).trans K144 (allS (Or.inl (List.mem_of_getElem? (i := 0) rfl)) all0)), V144⟩ (by decide) (by decide)
def Q_cPS (Z : State) (b : Addr) (g t ts : Addr) (kt ks : ClassId) (vs : List Value) (ds : List Int32) (k : Nat) (zc : Int32) (h0 : Heap) (n0 : Nat) : Option Value → Heap → List Loc → Prop := (fun v h L => v = none ∧ Fr n0 L ∧ Keep h0 h [t] ∧ Arv Z h t kt .byte (16 : Int32) (vs.take k ++ ((ds.map StrChars.lo8).map Value.int) ++ vs.drop (k + ds.length)) (.int (0 : Int32)))
set_option maxRecDepth 65536 in
set_option maxHeartbeats 40000000 in
theorem cPS (l : Launch) (Z : State) (a0 : Array Value) (hw : ∀ d ∈ tables_1, d.before a0 Z = true) (ws : List Jvm.Cond) (b : Addr) (g t ts : Addr) (kt ks : ClassId) (vs : List Value) (ds : List Int32) (k : Nat) (zc : Int32) (h0 : Heap) (n0 : Nat) (Z0 : n0 ≤ h0.size) (OLD : Old Z n0 h0) (CS : Sta Z Z.heap "java/lang/String" "COMPACT_STRINGS" "Z" (.int zc)) (hzc : ¬ zc = 0) (E_s : Exa Z h0 g "java/lang/String") (F_sc : Fld Z h0 g "java/lang/String" "coder" "B" (.int (0 : Int32))) (F_sv : Fld Z h0 g "java/lang/String" "value" "[B" (.ref ts)) (A_s : Arv Z h0 ts ks .byte (Int32.ofNat ds.length) ((ds.map StrChars.lo8).map Value.int) (.int (0 : Int32))) (V_t : Arv Z h0 t kt .byte (16 : Int32) vs (.int (0 : Int32))) (hv : vs.length = 16) (hk : k + ds.length ≤ 16) (gt : n0 ≤ t) (E_b : Exa Z h0 b "java/lang/StringBuilder") (F_v : Fld Z h0 b "java/lang/AbstractStringBuilder" "value" "[B" (.ref t)) (F_c : Fld Z h0 b "java/lang/AbstractStringBuilder" "coder" "B" (.int (0 : Int32))) :
    Con l (⟨"java/lang/AbstractStringBuilder", "putStringAt", "(ILjava/lang/String;)V"⟩ : MethodName) jdk_68_method_73_code 3 none ws ({ frames := 2, cells := 0, slots := 0, locals := 79 } : Room) Z #[(.ref b), (.int (Int32.ofNat k)), (.ref g)] h0 (Q_cPS Z b g t ts kt ks vs ds k zc h0 n0) 0 0 := by
  refine enter (plainFor_of_name pn_4) ?_
  intro p e s m below meth c s₁ hnm hret hlk D0
  rw [ef_cPS m b (Int32.ofNat k) g]
  refine g_aloadN D0 1 d_jdk_68m73_0 rfl rfl rfl ?_
  refine g_aloadN D0 2 d_jdk_68m73_1 rfl rfl rfl ?_
  refine g_callVp D0 5 (hw _ w_108) (own_decl (hw _ w_109) (hw _ w_112)) (notFace_of_selects (args := #[]) (mvT D0.wm (hw _ w_111))) (hw _ w_111) (hw _ w_109) (by decide) ((cInf l Z a0 hw [] b g zc h0 n0 Z0 OLD CS hzc F_c E_s F_sc).back D0 0 (hw _ w_112) (hw _ w_68) (by decide) (by decide)) E_b rfl [(.ref g)] rfl (lenOf pd_5 rfl) rfl (Nat.le_of_eq rfl) (by decide) (by decide) d_jdk_68m73_2 rfl ?_
  intro v145 T145 q145 D145
  subst q145
  show Go p e below _ (T145.setTop (mkF m 5 #[.val (.ref b), .val (.int (Int32.ofNat k)), .val (.ref g)] []))
  refine g_aloadN D145 6 d_jdk_68m73_5 rfl rfl rfl ?_
  refine g_aloadN D145 7 d_jdk_68m73_6 rfl rfl rfl ?_
  refine g_getF D145 10 (hw _ w_72) Via.refl F_v d_jdk_68m73_7 rfl ?_
  intro T146 D146
  refine g_iloadN D146 11 d_jdk_68m73_10 rfl rfl ?_
  refine g_aloadN D146 12 d_jdk_68m73_11 rfl rfl rfl ?_
  refine g_getF D146 15 (hw _ w_74) Via.refl F_c d_jdk_68m73_12 rfl ?_
  intro T147 D147
  refine g_callV D147 18 (hw _ w_114) (hw _ w_115) (notFace_of_selects (args := #[]) (mvT D147.wm (hw _ w_117))) (hw _ w_117) (hw _ w_116) (by decide) ((cGB l Z a0 hw [] g t ts kt ks vs ds k zc h0 n0 Z0 OLD CS hzc E_s F_sc F_sv A_s V_t hv hk gt).back D147 0 (hw _ w_118) (hw _ w_6) (by decide) (by decide)) E_s rfl [(.ref t), (.int (Int32.ofNat k)), (.int (0 : Int32))] rfl (lenOf pd_6 rfl) rfl (Nat.le_of_eq rfl) (by decide) (by decide) (fun _ _ _ _ => trivial) d_jdk_68m73_15 rfl ?_
  intro v148 T148 h148 L148 q148 D148
  obtain ⟨rfl, N1, K1, X1⟩ := q148
  rw [List.nil_append] at D148
  show Go p e below _ (T148.setTop (mkF m 18 #[.val (.ref b), .val (.int (Int32.ofNat k)), .val (.ref g)] []))
  exact r_V D148 hret hlk d_jdk_68m73_18 ⟨rfl, N1, K1, X1⟩ (by decide) (by decide)
def Q_cAA (Z : State) (b : Addr) (g t ts : Addr) (kt ks : ClassId) (vs : List Value) (ds : List Int32) (k : Nat) (zc : Int32) (h0 : Heap) (n0 : Nat) : Option Value → Heap → List Loc → Prop := (fun v h L => v = some (.ref b) ∧ Fr n0 L ∧ Keep h0 h [b, t] ∧ Exa Z h b "java/lang/StringBuilder" ∧ Fld Z h b "java/lang/AbstractStringBuilder" "value" "[B" (.ref t) ∧ Fld Z h b "java/lang/AbstractStringBuilder" "coder" "B" (.int (0 : Int32)) ∧ Fld Z h b "java/lang/AbstractStringBuilder" "count" "I" (.int (Int32.ofNat (k + ds.length))) ∧ Arv Z h t kt .byte (16 : Int32) (vs.take k ++ ((ds.map StrChars.lo8).map Value.int) ++ vs.drop (k + ds.length)) (.int (0 : Int32)))
set_option maxRecDepth 65536 in
set_option maxHeartbeats 40000000 in
theorem cAA (l : Launch) (Z : State) (a0 : Array Value) (hw : ∀ d ∈ tables_1, d.before a0 Z = true) (ws : List Jvm.Cond) (b : Addr) (g t ts : Addr) (kt ks : ClassId) (vs : List Value) (ds : List Int32) (k : Nat) (zc : Int32) (h0 : Heap) (n0 : Nat) (Z0 : n0 ≤ h0.size) (OLD : Old Z n0 h0) (CS : Sta Z Z.heap "java/lang/String" "COMPACT_STRINGS" "Z" (.int zc)) (hzc : ¬ zc = 0) (E_s : Exa Z h0 g "java/lang/String") (F_sc : Fld Z h0 g "java/lang/String" "coder" "B" (.int (0 : Int32))) (F_sv : Fld Z h0 g "java/lang/String" "value" "[B" (.ref ts)) (A_s : Arv Z h0 ts ks .byte (Int32.ofNat ds.length) ((ds.map StrChars.lo8).map Value.int) (.int (0 : Int32))) (V_t : Arv Z h0 t kt .byte (16 : Int32) vs (.int (0 : Int32))) (hv : vs.length = 16) (hk : k + ds.length ≤ 16) (gt : n0 ≤ t) (E_b : Exa Z h0 b "java/lang/StringBuilder") (F_v : Fld Z h0 b "java/lang/AbstractStringBuilder" "value" "[B" (.ref t)) (F_c : Fld Z h0 b "java/lang/AbstractStringBuilder" "coder" "B" (.int (0 : Int32))) (F_n : Fld Z h0 b "java/lang/AbstractStringBuilder" "count" "I" (.int (Int32.ofNat k))) (gb : n0 ≤ b) (X_s : LS Z h0 g ds) :
    Con l (⟨"java/lang/AbstractStringBuilder", "append", "(Ljava/lang/String;)Ljava/lang/AbstractStringBuilder;"⟩ : MethodName) jdk_68_method_22_code 3 (some (.object "java/lang/AbstractStringBuilder")) ws ({ frames := 3, cells := 0, slots := 0, locals := 95 } : Room) Z #[(.ref b), (.ref g)] h0 (Q_cAA Z b g t ts kt ks vs ds k zc h0 n0) 0 0 := by
  refine enter (plainFor_of_name pn_4) ?_
  intro p e s m below meth c s₁ hnm hret hlk D0
  rw [ef_cAA m b g]
  refine g_aloadN D0 1 d_jdk_68m22_0 rfl rfl rfl ?_
  refine g_nnY D0 9 d_jdk_68m22_1 (by decide) (by decide) ?_
  refine g_aloadN D0 10 d_jdk_68m22_9 rfl rfl rfl ?_
  refine g_callVp D0 13 (hw _ w_86) (hw _ w_87) (notFace_of_selects (args := #[]) (mvT D0.wm (hw _ w_89))) (hw _ w_89) (hw _ w_88) (by decide) (TS.lenB 0 D0 hw (LS.ts X_s) (CS.ext OLD.2) hzc (by decide) (by decide)) E_s rfl [] rfl (lenOf pd_7 rfl) rfl (Nat.le_of_eq rfl) (by decide) (by decide) d_jdk_68m22_10 rfl ?_
  intro v149 T149 q149 D149
  subst q149
  show Go p e below _ (T149.setTop (mkF m 13 #[.val (.ref b), .val (.ref g), .unset] [(.int (Int32.ofNat ds.length))]))
  refine g_istoreN D149 14 #[.val (.ref b), .val (.ref g), .val (.int (Int32.ofNat ds.length))] d_jdk_68m22_13 rfl rfl ?_
  refine g_aloadN D149 15 d_jdk_68m22_14 rfl rfl rfl ?_
  refine g_aloadN D149 16 d_jdk_68m22_15 rfl rfl rfl ?_
  refine g_getF D149 19 (hw _ w_96) Via.refl F_n d_jdk_68m22_16 rfl ?_
  intro T150 D150
  refine g_iloadN D150 20 d_jdk_68m22_19 rfl rfl ?_
  refine g_iadd D150 21 d_jdk_68m22_20 rfl ?_
  refine g_callVp D150 24 (hw _ w_98) (own_decl (hw _ w_99) (hw _ w_102)) (notFace_of_selects (args := #[]) (mvT D150.wm (hw _ w_101))) (hw _ w_101) (hw _ w_99) (by decide) ((cEn l Z a0 hw [] b t kt vs _ h0 n0 Z0 F_v F_c V_t (own_cap hk)).back D150 0 (hw _ w_102) (hw _ w_68) (by decide) (by decide)) E_b rfl [(.int ((Int32.ofNat k) + (Int32.ofNat ds.length)))] rfl (lenOf pd_3 rfl) rfl (Nat.le_of_eq rfl) (by decide) (by decide) d_jdk_68m22_21 rfl ?_
  intro v151 T151 q151 D151
  subst q151
  show Go p e below _ (T151.setTop (mkF m 24 #[.val (.ref b), .val (.ref g), .val (.int (Int32.ofNat ds.length))] []))
  refine g_aloadN D151 25 d_jdk_68m22_24 rfl rfl rfl ?_
  refine g_aloadN D151 26 d_jdk_68m22_25 rfl rfl rfl ?_
  refine g_getF D151 29 (hw _ w_96) Via.refl F_n d_jdk_68m22_26 rfl ?_
  intro T152 D152
  refine g_aloadN D152 30 d_jdk_68m22_29 rfl rfl rfl ?_
  refine g_callV D152 33 (hw _ w_103) (own_decl (hw _ w_104) (hw _ w_107)) (notFace_of_selects (args := #[]) (mvT D152.wm (hw _ w_106))) (hw _ w_106) (hw _ w_104) (by decide) ((cPS l Z a0 hw [] b g t ts kt ks vs ds k zc h0 n0 Z0 OLD CS hzc E_s F_sc F_sv A_s V_t hv hk gt E_b F_v F_c).back D152 0 (hw _ w_107) (hw _ w_68) (by decide) (by decide)) E_b rfl [(.int (Int32.ofNat k)), (.ref g)] rfl (lenOf pd_8 rfl) rfl (Nat.le_of_eq rfl) (by decide) (by decide) (fun _ _ _ _ => trivial) d_jdk_68m22_30 rfl ?_
  intro v153 T153 h153 L153 q153 D153
  obtain ⟨rfl, N153, K153, V153⟩ := q153
  have NF153 := Fr.app (Fr.nil n0) N153
  show Go p e below _ (T153.setTop (mkF m 33 #[.val (.ref b), .val (.ref g), .val (.int (Int32.ofNat ds.length))] []))
  refine g_aloadN D153 34 d_jdk_68m22_33 rfl rfl rfl ?_
  refine g_dup D153 35 d_jdk_68m22_34 rfl rfl ?_
  refine g_getF D153 38 (hw _ w_96) Via.refl (F_n.keep K153 (ninS (Exa.neArv E_b V_t (hw _ w_59)) nin0)) d_jdk_68m22_35 rfl ?_
  intro T154 D154
  refine g_iloadN D154 39 d_jdk_68m22_38 rfl rfl ?_
  refine g_iadd D154 40 d_jdk_68m22_39 rfl ?_
  rw [own_add]
  refine g_putF D154 43 (hw _ w_96) Via.refl (F_n.keep K153 (ninS (Exa.neArv E_b V_t (hw _ w_59)) nin0)) (E_b.keep K153) (Or.inl (hw _ w_97)) (hw _ w_59) (ty := .int) (by decide) rfl rfl (fun _ _ => trivial) d_jdk_68m22_40 rfl ?_
  intro T155 h155 W155 D155
  have N155 := Fr.snoc D155.st NF153 gb
  have F155 := (F_n.keep K153 (ninS (Exa.neArv E_b V_t (hw _ w_59)) nin0)).same W155
  refine g_aloadN D155 44 d_jdk_68m22_43 rfl rfl rfl ?_
  exact r_A D155 hret rfl rfl hlk d_jdk_68m22_44 ⟨rfl, N155, (((Keep.refl _ [b, t]).trans K153 (allS (Or.inl (List.mem_of_getElem? (i := 1) rfl)) all0)).wr W155 (Or.inl (List.mem_of_getElem? (i := 0) rfl))), ((E_b.keep K153).wr W155), ((F_v.keep K153 (ninS (Exa.neArv E_b V_t (hw _ w_59)) nin0)).other W155 (Or.inr (slot_ne (Or.inl (hw _ w_73)) (Or.inl (hw _ w_97)) (by decide) (t := (.array .byte)) (t' := .int) (by decide) (by decide)))), ((F_c.keep K153 (ninS (Exa.neArv E_b V_t (hw _ w_59)) nin0)).other W155 (Or.inr (slot_ne (Or.inl (hw _ w_75)) (Or.inl (hw _ w_97)) (by decide) (t := .byte) (t' := .int) (by decide) (by decide)))), F155, (V153.other W155 (Ne.symm (Exa.neArv E_b V_t (hw _ w_59))))⟩ (by decide) (by decide)
def Q_cAp (Z : State) (b : Addr) (g t ts : Addr) (kt ks : ClassId) (vs : List Value) (ds : List Int32) (k : Nat) (zc : Int32) (h0 : Heap) (n0 : Nat) : Option Value → Heap → List Loc → Prop := (fun v h L => v = some (.ref b) ∧ Fr n0 L ∧ Keep h0 h [b, t] ∧ Exa Z h b "java/lang/StringBuilder" ∧ Fld Z h b "java/lang/AbstractStringBuilder" "value" "[B" (.ref t) ∧ Fld Z h b "java/lang/AbstractStringBuilder" "coder" "B" (.int (0 : Int32)) ∧ Fld Z h b "java/lang/AbstractStringBuilder" "count" "I" (.int (Int32.ofNat (k + ds.length))) ∧ Arv Z h t kt .byte (16 : Int32) (vs.take k ++ ((ds.map StrChars.lo8).map Value.int) ++ vs.drop (k + ds.length)) (.int (0 : Int32)))
set_option maxRecDepth 65536 in
set_option maxHeartbeats 40000000 in
theorem cAp (l : Launch) (Z : State) (a0 : Array Value) (hw : ∀ d ∈ tables_1, d.before a0 Z = true) (ws : List Jvm.Cond) (b : Addr) (g t ts : Addr) (kt ks : ClassId) (vs : List Value) (ds : List Int32) (k : Nat) (zc : Int32) (h0 : Heap) (n0 : Nat) (Z0 : n0 ≤ h0.size) (OLD : Old Z n0 h0) (CS : Sta Z Z.heap "java/lang/String" "COMPACT_STRINGS" "Z" (.int zc)) (hzc : ¬ zc = 0) (E_s : Exa Z h0 g "java/lang/String") (F_sc : Fld Z h0 g "java/lang/String" "coder" "B" (.int (0 : Int32))) (F_sv : Fld Z h0 g "java/lang/String" "value" "[B" (.ref ts)) (A_s : Arv Z h0 ts ks .byte (Int32.ofNat ds.length) ((ds.map StrChars.lo8).map Value.int) (.int (0 : Int32))) (V_t : Arv Z h0 t kt .byte (16 : Int32) vs (.int (0 : Int32))) (hv : vs.length = 16) (hk : k + ds.length ≤ 16) (gt : n0 ≤ t) (E_b : Exa Z h0 b "java/lang/StringBuilder") (F_v : Fld Z h0 b "java/lang/AbstractStringBuilder" "value" "[B" (.ref t)) (F_c : Fld Z h0 b "java/lang/AbstractStringBuilder" "coder" "B" (.int (0 : Int32))) (F_n : Fld Z h0 b "java/lang/AbstractStringBuilder" "count" "I" (.int (Int32.ofNat k))) (gb : n0 ≤ b) (X_s : LS Z h0 g ds) :
    Con l (⟨"java/lang/StringBuilder", "append", "(Ljava/lang/String;)Ljava/lang/StringBuilder;"⟩ : MethodName) jdk_67_method_7_code 2 (some (.object "java/lang/StringBuilder")) ws ({ frames := 4, cells := 0, slots := 0, locals := 109 } : Room) Z #[(.ref b), (.ref g)] h0 (Q_cAp Z b g t ts kt ks vs ds k zc h0 n0) 0 0 := by
  refine enter (plainFor_of_name pn_5) ?_
  intro p e s m below meth c s₁ hnm hret hlk D0
  rw [ef_cAp m b g]
  refine g_aloadN D0 1 d_jdk_67m7_0 rfl rfl rfl ?_
  refine g_aloadN D0 2 d_jdk_67m7_1 rfl rfl rfl ?_
  refine g_callU D0 5 (by decide) (hw _ w_81) (own_same (hw _ w_84) (hw _ w_101) rfl (by decide)) (hw _ w_82) (hw _ w_83) (hw _ w_85) ((cAA l Z a0 hw [] b g t ts kt ks vs ds k zc h0 n0 Z0 OLD CS hzc E_s F_sc F_sv A_s V_t hv hk gt E_b F_v F_c F_n gb X_s).back D0 0 (hw _ w_85) (hw _ w_68) (by decide) (by decide)) (Ins.self E_b) rfl [(.ref g)] rfl (lenOf pd_9 rfl) rfl (Nat.le_of_eq rfl) (by decide) (by decide) (fun _ _ _ _ => trivial) d_jdk_67m7_2 rfl ?_
  intro v156 T156 h156 L156 q156 D156
  obtain ⟨rfl, X1⟩ := q156
  rw [List.nil_append] at D156
  show Go p e below _ (T156.setTop (mkF m 5 #[.val (.ref b), .val (.ref g)] [(.ref b)]))
  refine g_pop D156 6 d_jdk_67m7_5 rfl rfl ?_
  refine g_aloadN D156 7 d_jdk_67m7_6 rfl rfl rfl ?_
  exact r_A D156 hret rfl rfl hlk d_jdk_67m7_7 ⟨rfl, X1⟩ (by decide) (by decide)
set_option maxRecDepth 65536 in
set_option maxHeartbeats 40000000 in
theorem cGV (l : Launch) (Z : State) (a0 : Array Value) (hw : ∀ d ∈ tables_1, d.before a0 Z = true) (ws : List Jvm.Cond) (b t : Addr) (h0 : Heap) (n0 : Nat) (Z0 : n0 ≤ h0.size) (F_v : Fld Z h0 b "java/lang/AbstractStringBuilder" "value" "[B" (.ref t)) :
    Con l (⟨"java/lang/AbstractStringBuilder", "getValue", "()[B"⟩ : MethodName) jdk_68_method_64_code 1 (some (.array .byte)) ws ({ frames := 0, cells := 0, slots := 0, locals := 0 } : Room) Z #[(.ref b)] h0 (fun v h L => v = some (.ref t) ∧ L = [] ∧ h = h0) 0 0 := by
  refine enter (plainFor_of_name pn_4) ?_
  intro p e s m below meth c s₁ hnm hret hlk D0
  rw [ef_cGV m b]
  refine g_aloadN D0 1 d_jdk_68m64_0 rfl rfl rfl ?_
  refine g_getF D0 4 (hw _ w_72) Via.refl F_v d_jdk_68m64_1 rfl ?_
  intro T157 D157
  exact r_A D157 hret rfl rfl hlk d_jdk_68m64_4 ⟨rfl, rfl, rfl⟩ (by decide) (by decide)
set_option maxRecDepth 65536 in
set_option maxHeartbeats 40000000 in
theorem cAL (l : Launch) (Z : State) (a0 : Array Value) (hw : ∀ d ∈ tables_1, d.before a0 Z = true) (ws : List Jvm.Cond) (b : Addr) (k : Nat) (h0 : Heap) (n0 : Nat) (Z0 : n0 ≤ h0.size) (F_n : Fld Z h0 b "java/lang/AbstractStringBuilder" "count" "I" (.int (Int32.ofNat k))) :
    Con l (⟨"java/lang/AbstractStringBuilder", "length", "()I"⟩ : MethodName) jdk_68_method_6_code 1 (some .int) ws ({ frames := 0, cells := 0, slots := 0, locals := 0 } : Room) Z #[(.ref b)] h0 (fun v h L => v = some (.int (Int32.ofNat k)) ∧ L = [] ∧ h = h0) 0 0 := by
  refine enter (plainFor_of_name pn_4) ?_
  intro p e s m below meth c s₁ hnm hret hlk D0
  rw [ef_cAL m b]
  refine g_aloadN D0 1 d_jdk_68m6_0 rfl rfl rfl ?_
  refine g_getF D0 4 (hw _ w_96) Via.refl F_n d_jdk_68m6_1 rfl ?_
  intro T158 D158
  exact r_I D158 hret hlk d_jdk_68m6_4 ⟨rfl, rfl, rfl⟩ (by decide) (by decide)
set_option maxRecDepth 65536 in
set_option maxHeartbeats 40000000 in
theorem cSL (l : Launch) (Z : State) (a0 : Array Value) (hw : ∀ d ∈ tables_1, d.before a0 Z = true) (ws : List Jvm.Cond) (b : Addr) (k : Nat) (h0 : Heap) (n0 : Nat) (Z0 : n0 ≤ h0.size) (E_b : Exa Z h0 b "java/lang/StringBuilder") (F_n : Fld Z h0 b "java/lang/AbstractStringBuilder" "count" "I" (.int (Int32.ofNat k))) :
    Con l (⟨"java/lang/StringBuilder", "length", "()I"⟩ : MethodName) jdk_67_method_93_code 1 (some .int) ws ({ frames := 1, cells := 0, slots := 0, locals := 12 } : Room) Z #[(.ref b)] h0 (fun v h L => v = some (.int (Int32.ofNat k)) ∧ L = [] ∧ h = h0) 0 0 := by
  refine enter (plainFor_of_name pn_5) ?_
  intro p e s m below meth c s₁ hnm hret hlk D0
  rw [ef_cSL m b]
  refine g_aloadN D0 1 d_jdk_67m93_0 rfl rfl rfl ?_
  refine g_callUp D0 4 (by decide) (hw _ w_147) (own_same (hw _ w_142) (hw _ w_101) rfl (by decide)) (hw _ w_143) (hw _ w_83) (hw _ w_148) ((cAL l Z a0 hw [] b k h0 n0 Z0 F_n).back D0 0 (hw _ w_148) (hw _ w_68) (by decide) (by decide)) (Ins.self E_b) rfl [] rfl (lenOf pd_7 rfl) rfl (Nat.le_of_eq rfl) (by decide) (by decide) d_jdk_67m93_1 rfl ?_
  intro v159 T159 q159 D159
  subst q159
  show Go p e below _ (T159.setTop (mkF m 4 #[.val (.ref b)] [(.int (Int32.ofNat k))]))
  exact r_I D159 hret hlk d_jdk_67m93_4 ⟨rfl, rfl, rfl⟩ (by decide) (by decide)
set_option maxRecDepth 65536 in
set_option maxHeartbeats 40000000 in
theorem cAIL (l : Launch) (Z : State) (a0 : Array Value) (hw : ∀ d ∈ tables_1, d.before a0 Z = true) (ws : List Jvm.Cond) (b : Addr) (zc : Int32) (h0 : Heap) (n0 : Nat) (Z0 : n0 ≤ h0.size) (OLD : Old Z n0 h0) (CS : Sta Z Z.heap "java/lang/String" "COMPACT_STRINGS" "Z" (.int zc)) (hzc : ¬ zc = 0) (F_c : Fld Z h0 b "java/lang/AbstractStringBuilder" "coder" "B" (.int (0 : Int32))) :
    Con l (⟨"java/lang/AbstractStringBuilder", "isLatin1", "()Z"⟩ : MethodName) jdk_68_method_68_code 1 (some .boolean) ws ({ frames := 0, cells := 0, slots := 0, locals := 0 } : Room) Z #[(.ref b)] h0 (fun v h L => v = some (.int (1 : Int32)) ∧ L = [] ∧ h = h0) 0 0 := by
  refine enter (plainFor_of_name pn_4) ?_
  intro p e s m below meth c s₁ hnm hret hlk D0
  rw [ef_cAIL m b]
  refine g_getS D0 3 (hw _ w_71) Via.refl (CS.ext OLD.2) d_jdk_68m68_0 rfl ?_
  intro T160 D160
  refine g_ifN D160 6 d_jdk_68m68_3 (feq hzc).1 rfl ?_
  refine g_aloadN D160 7 d_jdk_68m68_6 rfl rfl rfl ?_
  refine g_getF D160 10 (hw _ w_74) Via.refl F_c d_jdk_68m68_7 rfl ?_
  intro T161 D161
  refine g_ifN D161 13 d_jdk_68m68_10 (by decide) rfl ?_
  refine g_iconst D161 14 (1 : Int32) d_jdk_68m68_13 rfl rfl ?_
  refine g_goto D161 18 d_jdk_68m68_14 (by decide) (by decide) ?_
  exact r_N D161 hret (by simp) hlk d_jdk_68m68_18 ⟨own_r1, rfl, rfl⟩ (by decide) (by decide)
set_option maxRecDepth 65536 in
set_option maxHeartbeats 40000000 in
theorem cCL (l : Launch) (Z : State) (a0 : Array Value) (hw : ∀ d ∈ tables_1, d.before a0 Z = true) (ws : List Jvm.Cond) (n : Int32) (h0 : Heap) (n0 : Nat) (Z0 : n0 ≤ h0.size) (hn : ¬ n < (0 : Int32)) :
    Con l (⟨"java/util/Arrays", "checkLength", "(II)V"⟩ : MethodName) jdk_65_method_131_code 2 none ws ({ frames := 0, cells := 0, slots := 0, locals := 0 } : Room) Z #[(.int (0 : Int32)), (.int n)] h0 (fun v h L => v = none ∧ L = [] ∧ h = h0) 0 0 := by
  refine enter (plainFor_of_name pn_6) ?_
  intro p e s m below meth c s₁ hnm hret hlk D0
  rw [ef_cCL m n]
  refine g_iloadN D0 1 d_jdk_65m131_0 rfl rfl ?_
  refine g_iloadN D0 2 d_jdk_65m131_1 rfl rfl ?_
  refine g_icmpY D0 37 d_jdk_65m131_2 (flt hn).2.1 (by decide) (by decide) ?_
  exact r_V D0 hret hlk d_jdk_65m131_37 ⟨rfl, rfl, rfl⟩ (by decide) (by decide)
set_option maxRecDepth 65536 in
set_option maxHeartbeats 40000000 in
theorem cMn (l : Launch) (Z : State) (a0 : Array Value) (hw : ∀ d ∈ tables_1, d.before a0 Z = true) (ws : List Jvm.Cond) (n : Int32) (h0 : Heap) (n0 : Nat) (Z0 : n0 ≤ h0.size) (hn : n < (16 : Int32)) :
    Con l (⟨"java/lang/Math", "min", "(II)I"⟩ : MethodName) jdk_29_method_69_code 2 (some .int) ws ({ frames := 0, cells := 0, slots := 0, locals := 0 } : Room) Z #[(.int (16 : Int32)), (.int n)] h0 (fun v h L => v = some (.int n) ∧ L = [] ∧ h = h0) 0 0 := by
  refine enter (Jvm.Free.JP.mathPlain rfl (by decide +kernel)) ?_
  intro p e s m below meth c s₁ hnm hret hlk D0
  rw [ef_cMn m n]
  refine g_iloadN D0 1 d_jdk_29m69_0 rfl rfl ?_
  refine g_iloadN D0 2 d_jdk_29m69_1 rfl rfl ?_
  refine g_icmpY D0 9 d_jdk_29m69_2 (tlt hn).2.2.1 (by decide) (by decide) ?_
  refine g_iloadN D0 10 d_jdk_29m69_9 rfl rfl ?_
  exact r_I D0 hret hlk d_jdk_29m69_10 ⟨rfl, rfl, rfl⟩ (by decide) (by decide)
def Q_cCB (Z : State) (t : Addr) (kt : ClassId) (vs : List Value) (k : Nat) (h0 : Heap) (n0 : Nat) : Option Value → Heap → List Loc → Prop := (fun v h L => ∃ a ka, v = some (.ref a) ∧ h0.size ≤ a ∧ Fr n0 L ∧ Ext h0 h ∧ Arv Z h a ka .byte (Int32.ofNat k) (vs.take k) (.int (0 : Int32)))
set_option maxRecDepth 65536 in
set_option maxHeartbeats 40000000 in
theorem cCB (l : Launch) (Z : State) (a0 : Array Value) (hw : ∀ d ∈ tables_1, d.before a0 Z = true) (ws : List Jvm.Cond) (t : Addr) (kt : ClassId) (vs : List Value) (k : Nat) (h0 : Heap) (n0 : Nat) (Z0 : n0 ≤ h0.size) (V_t : Arv Z h0 t kt .byte (16 : Int32) vs (.int (0 : Int32))) (hv : vs.length = 16) (h8 : k ≤ 8) :
    Con l (⟨"java/util/Arrays", "copyOfRangeByte", "([BII)[B"⟩ : MethodName) jdk_65_method_133_code 5 (some (.array .byte)) ws ({ frames := 1, cells := 1, slots := 16, locals := 64 } : Room) Z #[(.ref t), (.int (0 : Int32)), (.int (Int32.ofNat k))] h0 (Q_cCB Z t kt vs k h0 n0) 1 16 := by
  refine enter (plainFor_of_name pn_6) ?_
  intro p e s m below meth c s₁ hnm hret hlk D0
  rw [ef_cCB m t (Int32.ofNat k)]
  have e1 := own_clamp (show k ≤ 4000 by omega)
  refine g_iloadN D0 1 d_jdk_65m133_0 rfl rfl ?_
  refine g_iloadN D0 2 d_jdk_65m133_1 rfl rfl ?_
  refine g_callSp D0 5 (hw _ w_161) (hw _ w_162) (hw _ w_156) (hw _ w_163) (by decide) ((cCL l Z a0 hw [] (Int32.ofNat k) h0 n0 Z0 (own_nneg (by omega))).back D0 0 (hw _ w_163) (hw _ w_156) (by decide) (by decide)) rfl [(.int (0 : Int32)), (.int (Int32.ofNat k))] rfl (lenOf pd_10 rfl) rfl (Nat.le_of_eq rfl) (by decide) (by decide) d_jdk_65m133_2 rfl ?_
  intro v162 T162 q162 D162
  subst q162
  show Go p e below _ (T162.setTop (mkF m 5 #[.val (.ref t), .val (.int (0 : Int32)), .val (.int (Int32.ofNat k)), .unset, .unset] []))
  refine g_iloadN D162 6 d_jdk_65m133_5 rfl rfl ?_
  refine g_iloadN D162 7 d_jdk_65m133_6 rfl rfl ?_
  refine g_isub D162 8 d_jdk_65m133_7 rfl ?_
  rw [own_sub0]
  refine g_istoreN D162 9 #[.val (.ref t), .val (.int (0 : Int32)), .val (.int (Int32.ofNat k)), .val (.int (Int32.ofNat k)), .unset] d_jdk_65m133_8 rfl rfl ?_
  refine g_iloadN D162 10 d_jdk_65m133_9 rfl rfl ?_
  refine g_newP D162 12 (aty := .byte) (hw _ w_19) d_jdk_65m133_10 (own_nneg (by omega)) (cap := 16) (by rw [e1]; omega) (by decide) (by decide) (by decide) (fun _ _ => trivial) rfl ?_
  intro T163 h163 a163 k163 g163 E163 V163 D163
  have V9 : Arv Z h163 a163 k163 .byte (Int32.ofNat k) (List.replicate k (.int (0 : Int32))) (.int (0 : Int32)) := V163.pad (pad_rep [] _ k)
  refine g_astore D163 14 #[.val (.ref t), .val (.int (0 : Int32)), .val (.int (Int32.ofNat k)), .val (.int (Int32.ofNat k)), .val (.ref a163)] d_jdk_65m133_12 rfl rfl rfl ?_
  refine g_aloadN D163 15 d_jdk_65m133_14 rfl rfl rfl ?_
  refine g_iloadN D163 16 d_jdk_65m133_15 rfl rfl ?_
  refine g_aload D163 18 d_jdk_65m133_16 rfl rfl rfl ?_
  refine g_iconst D163 19 (0 : Int32) d_jdk_65m133_18 rfl rfl ?_
  refine g_aloadN D163 20 d_jdk_65m133_19 rfl rfl rfl ?_
  refine g_alen D163 21 (V_t.ext E163) d_jdk_65m133_20 rfl ?_
  refine g_iloadN D163 22 d_jdk_65m133_21 rfl rfl ?_
  refine g_isub D163 23 d_jdk_65m133_22 rfl ?_
  rw [show ((16 : Int32) - (0 : Int32)) = (16 : Int32) from by decide]
  refine g_iloadN D163 24 d_jdk_65m133_23 rfl rfl ?_
  refine g_callSp D163 27 (hw _ w_164) (hw _ w_165) (hw _ w_166) (hw _ w_167) (by decide) ((cMn l Z a0 hw [] (Int32.ofNat k) h163 n0 (Nat.le_trans Z0 E163.1) (own_n16 h8).2).back D163 4 (hw _ w_167) (hw _ w_166) (by decide) (by decide)) rfl [(.int (16 : Int32)), (.int (Int32.ofNat k))] rfl (lenOf pd_11 rfl) rfl (Nat.le_of_eq rfl) (by decide) (by decide) d_jdk_65m133_24 rfl ?_
  intro v164 T164 q164 D164
  subst q164
  show Go p e below _ (T164.setTop (mkF m 27 #[.val (.ref t), .val (.int (0 : Int32)), .val (.int (Int32.ofNat k)), .val (.int (Int32.ofNat k)), .val (.ref a163)] [(.int (Int32.ofNat k)), (.int (0 : Int32)), (.ref a163), (.int (0 : Int32)), (.ref t)]))
  refine g_cpA D164 30 (hw _ w_168) (hw _ w_122) (hw _ w_120) (hw _ w_121) (vs.take k) (V_t.ext E163) V9 rfl (by decide) (by decide) (own_nneg (by omega)) (by rw [e1]; show 0 + k ≤ 16; omega) (by rw [e1]; exact Nat.le_of_eq (Nat.zero_add _)) (own_us (by omega) (by omega)) (by rw [e1]; simp) (Fr.nil n0) (Nat.le_trans Z0 (Nat.le_of_eq g163.symm)) rfl d_jdk_65m133_27 (by decide) (W := 0) (Nat.le_of_eq rfl) (by decide) (fun _ _ => trivial) rfl ?_
  intro T165 h165 L165 N165 K165 V165 D165
  rw [own_tail (by omega)] at V165
  refine g_aload D165 32 d_jdk_65m133_30 rfl rfl rfl ?_
  exact r_A D165 hret rfl rfl hlk d_jdk_65m133_32 ⟨a163, k163, rfl, (Nat.le_trans (Nat.le_refl _) (Nat.le_of_eq g163.symm)), N165, Keep.toExt (((Keep.refl _ []).ext E163).trans K165 (allS (Or.inr (Nat.le_trans (Nat.le_refl _) (Nat.le_of_eq g163.symm))) all0)), V165⟩ (by decide) (by decide)
def Q_cCR (Z : State) (t : Addr) (kt : ClassId) (vs : List Value) (k : Nat) (h0 : Heap) (n0 : Nat) : Option Value → Heap → List Loc → Prop := (fun v h L => ∃ a ka, v = some (.ref a) ∧ h0.size ≤ a ∧ Fr n0 L ∧ Ext h0 h ∧ Arv Z h a ka .byte (Int32.ofNat k) (vs.take k) (.int (0 : Int32)))
set_option maxRecDepth 65536 in
set_option maxHeartbeats 40000000 in
theorem cCR (l : Launch) (Z : State) (a0 : Array Value) (hw : ∀ d ∈ tables_1, d.before a0 Z = true) (ws : List Jvm.Cond) (t : Addr) (kt : ClassId) (vs : List Value) (k : Nat) (h0 : Heap) (n0 : Nat) (Z0 : n0 ≤ h0.size) (V_t : Arv Z h0 t kt .byte (16 : Int32) vs (.int (0 : Int32))) (hv : vs.length = 16) (h8 : k ≤ 8) :
    Con l (⟨"java/util/Arrays", "copyOfRange", "([BII)[B"⟩ : MethodName) jdk_65_method_132_code 3 (some (.array .byte)) ws ({ frames := 2, cells := 1, slots := 16, locals := 80 } : Room) Z #[(.ref t), (.int (0 : Int32)), (.int (Int32.ofNat k))] h0 (Q_cCR Z t kt vs k h0 n0) 1 16 := by
  refine enter (plainFor_of_name pn_6) ?_
  intro p e s m below meth c s₁ hnm hret hlk D0
  rw [ef_cCR m t (Int32.ofNat k)]
  refine g_iloadN D0 1 d_jdk_65m132_0 rfl rfl ?_
  refine g_ifN D0 4 d_jdk_65m132_1 (by decide) rfl ?_
  refine g_iloadN D0 5 d_jdk_65m132_4 rfl rfl ?_
  refine g_aloadN D0 6 d_jdk_65m132_5 rfl rfl rfl ?_
  refine g_alen D0 7 V_t d_jdk_65m132_6 rfl ?_
  refine g_icmpN D0 10 d_jdk_65m132_7 (feq (own_n16 h8).1).1 rfl ?_
  refine g_aloadN D0 11 d_jdk_65m132_10 rfl rfl rfl ?_
  refine g_iloadN D0 12 d_jdk_65m132_11 rfl rfl ?_
  refine g_iloadN D0 13 d_jdk_65m132_12 rfl rfl ?_
  refine g_callS D0 16 (hw _ w_158) (hw _ w_159) (hw _ w_156) (hw _ w_160) (by decide) ((cCB l Z a0 hw [] t kt vs k h0 n0 Z0 V_t hv h8).back D0 0 (hw _ w_160) (hw _ w_156) (by decide) (by decide)) rfl [(.ref t), (.int (0 : Int32)), (.int (Int32.ofNat k))] rfl (lenOf pd_12 rfl) rfl (Nat.le_of_eq rfl) (by decide) (by decide) (fun _ _ _ _ => trivial) d_jdk_65m132_13 rfl ?_
  intro v166 T166 h166 L166 q166 D166
  obtain ⟨a, ka, rfl, X1⟩ := q166
  rw [List.nil_append] at D166
  show Go p e below _ (T166.setTop (mkF m 16 #[.val (.ref t), .val (.int (0 : Int32)), .val (.int (Int32.ofNat k))] [(.ref a)]))
  exact r_A D166 hret rfl rfl hlk d_jdk_65m132_16 ⟨a, ka, rfl, X1⟩ (by decide) (by decide)
def Q_cI2 (Z : State) (x b t : Addr) (kt : ClassId) (vs : List Value) (k : Nat) (cs : List Int32) (zc : Int32) (h0 : Heap) (n0 : Nat) : Option Value → Heap → List Loc → Prop := (fun v h L => v = none ∧ Fr n0 L ∧ Keep h0 h [x] ∧ LS Z h x cs)
set_option maxRecDepth 65536 in
set_option maxHeartbeats 40000000 in
theorem cI2 (l : Launch) (Z : State) (a0 : Array Value) (hw : ∀ d ∈ tables_1, d.before a0 Z = true) (ws : List Jvm.Cond) (x b t : Addr) (kt : ClassId) (vs : List Value) (k : Nat) (cs : List Int32) (zc : Int32) (h0 : Heap) (n0 : Nat) (Z0 : n0 ≤ h0.size) (OLD : Old Z n0 h0) (CS : Sta Z Z.heap "java/lang/String" "COMPACT_STRINGS" "Z" (.int zc)) (hzc : ¬ zc = 0) (E_b : Exa Z h0 b "java/lang/StringBuilder") (F_v : Fld Z h0 b "java/lang/AbstractStringBuilder" "value" "[B" (.ref t)) (F_c : Fld Z h0 b "java/lang/AbstractStringBuilder" "coder" "B" (.int (0 : Int32))) (F_n : Fld Z h0 b "java/lang/AbstractStringBuilder" "count" "I" (.int (Int32.ofNat k))) (V_t : Arv Z h0 t kt .byte (16 : Int32) vs (.int (0 : Int32))) (hv : vs.length = 16) (h8 : k ≤ 8) (hcs : cs.length = k) (htk : vs.take k = (cs.map StrChars.lo8).map Value.int) (h255 : ∀ c ∈ cs, B8 c) (E_x : Exa Z h0 x "java/lang/String") (G_v : Fld Z h0 x "java/lang/String" "value" "[B" .null) (G_c : Fld Z h0 x "java/lang/String" "coder" "B" (.int (0 : Int32))) (gx : n0 ≤ x) :
    Con l (⟨"java/lang/String", "<init>", "(Ljava/lang/AbstractStringBuilder;Ljava/lang/Void;)V"⟩ : MethodName) jdk_42_method_150_code 5 none ws ({ frames := 3, cells := 1, slots := 16, locals := 96 } : Room) Z #[(.ref x), (.ref b), .null] h0 (Q_cI2 Z x b t kt vs k cs zc h0 n0) 1 16 := by
  refine enter (plainFor_of_name pn_0) ?_
  intro p e s m below meth c s₁ hnm hret hlk D0
  rw [ef_cI2 m x b]
  refine g_aloadN D0 1 d_jdk_42m150_0 rfl rfl rfl ?_
  refine g_initO D0 4 (hw _ w_15) (hw _ w_16) (hw _ w_17) rfl d_jdk_42m150_1 (by decide) (W := 0) (Nat.le_of_eq rfl) (by decide) rfl ?_
  intro T167 D167
  refine g_aloadN D167 5 d_jdk_42m150_4 rfl rfl rfl ?_
  refine g_callVp D167 8 (hw _ w_136) (hw _ w_137) (notFace_of_selects (args := #[]) (mvT D167.wm (hw _ w_139))) (hw _ w_139) (hw _ w_138) (by decide) ((cGV l Z a0 hw [] b t h0 n0 Z0 F_v).back D167 0 (hw _ w_140) (hw _ w_68) (by decide) (by decide)) E_b rfl [] rfl (lenOf pd_13 rfl) rfl (Nat.le_of_eq rfl) (by decide) (by decide) d_jdk_42m150_5 rfl ?_
  intro v168 T168 q168 D168
  subst q168
  show Go p e below _ (T168.setTop (mkF m 8 #[.val (.ref x), .val (.ref b), .val .null, .unset, .unset] [(.ref t)]))
  refine g_astoreN D168 9 #[.val (.ref x), .val (.ref b), .val .null, .val (.ref t), .unset] d_jdk_42m150_8 rfl rfl rfl ?_
  refine g_aloadN D168 10 d_jdk_42m150_9 rfl rfl rfl ?_
  refine g_callVp D168 13 (hw _ w_141) (hw _ w_142) (own_nf (args := #[]) (mvT D168.wm (hw _ w_101)) rfl) (hw _ w_144) (hw _ w_145) (by decide) ((cSL l Z a0 hw [] b k h0 n0 Z0 E_b F_n).back D168 0 (hw _ w_146) (hw _ w_60) (by decide) (by decide)) E_b rfl [] rfl (lenOf pd_7 rfl) rfl (Nat.le_of_eq rfl) (by decide) (by decide) d_jdk_42m150_10 rfl ?_
  intro v169 T169 q169 D169
  subst q169
  show Go p e below _ (T169.setTop (mkF m 13 #[.val (.ref x), .val (.ref b), .val .null, .val (.ref t), .unset] [(.int (Int32.ofNat k))]))
  refine g_istore D169 15 #[.val (.ref x), .val (.ref b), .val .null, .val (.ref t), .val (.int (Int32.ofNat k))] d_jdk_42m150_13 rfl rfl ?_
  refine g_aloadN D169 16 d_jdk_42m150_15 rfl rfl rfl ?_
  refine g_callVp D169 19 (hw _ w_149) (hw _ w_150) (notFace_of_selects (args := #[]) (mvT D169.wm (hw _ w_152))) (hw _ w_152) (hw _ w_151) (by decide) ((cAIL l Z a0 hw [] b zc h0 n0 Z0 OLD CS hzc F_c).back D169 0 (hw _ w_153) (hw _ w_68) (by decide) (by decide)) E_b rfl [] rfl (lenOf pd_14 rfl) rfl (Nat.le_of_eq rfl) (by decide) (by decide) d_jdk_42m150_16 rfl ?_
  intro v170 T170 q170 D170
  subst q170
  show Go p e below _ (T170.setTop (mkF m 19 #[.val (.ref x), .val (.ref b), .val .null, .val (.ref t), .val (.int (Int32.ofNat k))] [(.int (1 : Int32))]))
  refine g_ifN D170 22 d_jdk_42m150_19 (by decide) rfl ?_
  refine g_aloadN D170 23 d_jdk_42m150_22 rfl rfl rfl ?_
  refine g_iconst D170 24 (0 : Int32) d_jdk_42m150_23 rfl rfl ?_
  refine g_putF D170 27 (hw _ w_25) Via.refl G_c E_x (Or.inr ⟨(hw _ w_21), rfl, hnm⟩) (hw _ w_5) (ty := .byte) (by decide) rfl rfl (fun _ _ => trivial) d_jdk_42m150_24 rfl ?_
  intro T171 h171 W171 D171
  have N171 := Fr.snoc D171.st (Fr.nil n0) gx
  have F171 := G_c.same W171
  refine g_aloadN D171 28 d_jdk_42m150_27 rfl rfl rfl ?_
  refine g_aloadN D171 29 d_jdk_42m150_28 rfl rfl rfl ?_
  refine g_iconst D171 30 (0 : Int32) d_jdk_42m150_29 rfl rfl ?_
  refine g_iload D171 32 d_jdk_42m150_30 rfl rfl ?_
  refine g_callS D171 35 (hw _ w_154) (hw _ w_155) (hw _ w_156) (hw _ w_157) (by decide) ((cCR l Z a0 hw [] t kt vs k h171 n0 (Nat.le_trans Z0 (Keep.of_wr W171).1) (V_t.other W171 (Ne.symm (Exa.neArv E_x V_t (hw _ w_5)))) hv h8).back D171 1 (hw _ w_157) (hw _ w_156) (by decide) (by decide)) rfl [(.ref t), (.int (0 : Int32)), (.int (Int32.ofNat k))] rfl (lenOf pd_12 rfl) rfl (Nat.le_of_eq rfl) (by decide) (by decide) (fun _ _ _ _ => trivial) d_jdk_42m150_32 rfl ?_
  intro v172 T172 h172 L172 q172 D172
  obtain ⟨a, ka, rfl, g172, N172, E172, V172⟩ := q172
  have NF172 := Fr.app N171 N172
  show Go p e below _ (T172.setTop (mkF m 35 #[.val (.ref x), .val (.ref b), .val .null, .val (.ref t), .val (.int (Int32.ofNat k))] [(.ref a), (.ref x)]))
  refine g_putF D172 38 (hw _ w_24) Via.refl ((G_v.other W171 (Or.inr (slot_ne (Or.inr (hw _ w_20)) (Or.inr (hw _ w_21)) (by decide) (t := (.array .byte)) (t' := .byte) (by decide) (by decide)))).ext E172) ((E_x.wr W171).ext E172) (Or.inr ⟨(hw _ w_20), rfl, hnm⟩) (hw _ w_5) (ty := (.array .byte)) (by decide) rfl rfl (fun _ _ => trivial) d_jdk_42m150_35 rfl ?_
  intro T173 h173 W173 D173
  have N173 := Fr.snoc D173.st NF172 gx
  have F173 := ((G_v.other W171 (Or.inr (slot_ne (Or.inr (hw _ w_20)) (Or.inr (hw _ w_21)) (by decide) (t := (.array .byte)) (t' := .byte) (by decide) (by decide)))).ext E172).same W173
  refine g_goto D173 97 d_jdk_42m150_38 (by decide) (by decide) ?_
  have V8 := (V172.other W173 (Ne.symm (Nat.ne_of_lt (Nat.lt_of_lt_of_le (Nat.lt_of_lt_of_le E_x.lt (Keep.of_wr W171).1) g172))))
  rw [htk, ← hcs] at V8
  exact r_V D173 hret hlk d_jdk_42m150_97 ⟨rfl, N173, ((((Keep.refl _ [x]).wr W171 (Or.inl (List.mem_of_getElem? (i := 0) rfl))).ext E172).wr W173 (Or.inl (List.mem_of_getElem? (i := 0) rfl))), a, ka, (((E_x.wr W171).ext E172).wr W173), ((F171.ext E172).other W173 (Or.inr (slot_ne (Or.inr (hw _ w_21)) (Or.inr (hw _ w_20)) (by decide) (t := .byte) (t' := (.array .byte)) (by decide) (by decide)))), F173, V8, h255, by omega⟩ (by decide) (by decide)
def Q_cI1 (Z : State) (x b t : Addr) (kt : ClassId) (vs : List Value) (k : Nat) (cs : List Int32) (zc : Int32) (h0 : Heap) (n0 : Nat) : Option Value → Heap → List Loc → Prop := (fun v h L => v = none ∧ Fr n0 L ∧ Keep h0 h [x] ∧ LS Z h x cs)
set_option maxRecDepth 65536 in
set_option maxHeartbeats 40000000 in
theorem cI1 (l : Launch) (Z : State) (a0 : Array Value) (hw : ∀ d ∈ tables_1, d.before a0 Z = true) (ws : List Jvm.Cond) (x b t : Addr) (kt : ClassId) (vs : List Value) (k : Nat) (cs : List Int32) (zc : Int32) (h0 : Heap) (n0 : Nat) (Z0 : n0 ≤ h0.size) (OLD : Old Z n0 h0) (CS : Sta Z Z.heap "java/lang/String" "COMPACT_STRINGS" "Z" (.int zc)) (hzc : ¬ zc = 0) (E_b : Exa Z h0 b "java/lang/StringBuilder") (F_v : Fld Z h0 b "java/lang/AbstractStringBuilder" "value" "[B" (.ref t)) (F_c : Fld Z h0 b "java/lang/AbstractStringBuilder" "coder" "B" (.int (0 : Int32))) (F_n : Fld Z h0 b "java/lang/AbstractStringBuilder" "count" "I" (.int (Int32.ofNat k))) (V_t : Arv Z h0 t kt .byte (16 : Int32) vs (.int (0 : Int32))) (hv : vs.length = 16) (h8 : k ≤ 8) (hcs : cs.length = k) (htk : vs.take k = (cs.map StrChars.lo8).map Value.int) (h255 : ∀ c ∈ cs, B8 c) (E_x : Exa Z h0 x "java/lang/String") (G_v : Fld Z h0 x "java/lang/String" "value" "[B" .null) (G_c : Fld Z h0 x "java/lang/String" "coder" "B" (.int (0 : Int32))) (gx : n0 ≤ x) :
    Con l (⟨"java/lang/String", "<init>", "(Ljava/lang/StringBuilder;)V"⟩ : MethodName) jdk_42_method_53_code 2 none ws ({ frames := 4, cells := 1, slots := 16, locals := 113 } : Room) Z #[(.ref x), (.ref b)] h0 (Q_cI1 Z x b t kt vs k cs zc h0 n0) 1 16 := by
  refine enter (plainFor_of_name pn_0) ?_
  intro p e s m below meth c s₁ hnm hret hlk D0
  rw [ef_cI1 m x b]
  refine g_aloadN D0 1 d_jdk_42m53_0 rfl rfl rfl ?_
  refine g_aloadN D0 2 d_jdk_42m53_1 rfl rfl rfl ?_
  refine g_aconst D0 3 d_jdk_42m53_2 rfl ?_
  refine g_callN D0 6 rfl (hw _ w_133) (hw _ w_134) (hw _ w_135) (by decide) ((cI2 l Z a0 hw [] x b t kt vs k cs zc h0 n0 Z0 OLD CS hzc E_b F_v F_c F_n V_t hv h8 hcs htk h255 E_x G_v G_c gx).back D0 0 (hw _ w_135) (hw _ w_6) (by decide) (by decide)) rfl [(.ref b), .null] rfl (lenOf pd_15 rfl) rfl (Nat.le_of_eq rfl) (by decide) (by decide) (fun _ _ _ _ => trivial) d_jdk_42m53_3 rfl ?_
  intro v174 T174 h174 L174 q174 D174
  obtain ⟨rfl, X1⟩ := q174
  rw [List.nil_append] at D174
  show Go p e below _ (T174.setTop (mkF m 6 #[.val (.ref x), .val (.ref b)] []))
  exact r_V D174 hret hlk d_jdk_42m53_6 ⟨rfl, X1⟩ (by decide) (by decide)
def Q_cSBT (Z : State) (b t : Addr) (kt : ClassId) (vs : List Value) (k : Nat) (cs : List Int32) (zc : Int32) (h0 : Heap) (n0 : Nat) : Option Value → Heap → List Loc → Prop := (fun v h L => ∃ a, v = some (.ref a) ∧ Fr n0 L ∧ Ext h0 h ∧ LS Z h a cs)
set_option maxRecDepth 65536 in
set_option maxHeartbeats 40000000 in
theorem cSBT (l : Launch) (Z : State) (a0 : Array Value) (hw : ∀ d ∈ tables_1, d.before a0 Z = true) (ws : List Jvm.Cond) (b t : Addr) (kt : ClassId) (vs : List Value) (k : Nat) (cs : List Int32) (zc : Int32) (h0 : Heap) (n0 : Nat) (Z0 : n0 ≤ h0.size) (OLD : Old Z n0 h0) (CS : Sta Z Z.heap "java/lang/String" "COMPACT_STRINGS" "Z" (.int zc)) (hzc : ¬ zc = 0) (E_b : Exa Z h0 b "java/lang/StringBuilder") (F_v : Fld Z h0 b "java/lang/AbstractStringBuilder" "value" "[B" (.ref t)) (F_c : Fld Z h0 b "java/lang/AbstractStringBuilder" "coder" "B" (.int (0 : Int32))) (F_n : Fld Z h0 b "java/lang/AbstractStringBuilder" "count" "I" (.int (Int32.ofNat k))) (V_t : Arv Z h0 t kt .byte (16 : Int32) vs (.int (0 : Int32))) (hv : vs.length = 16) (h8 : k ≤ 8) (hcs : cs.length = k) (htk : vs.take k = (cs.map StrChars.lo8).map Value.int) (h255 : ∀ c ∈ cs, B8 c) :
    Con l (⟨"java/lang/StringBuilder", "toString", "()Ljava/lang/String;"⟩ : MethodName) jdk_67_method_42_code 1 (some (.object "java/lang/String")) ws ({ frames := 5, cells := 2, slots := 20, locals := 127 } : Room) Z #[(.ref b)] h0 (Q_cSBT Z b t kt vs k cs zc h0 n0) 2 20 := by
  refine enter (plainFor_of_name pn_5) ?_
  intro p e s m below meth c s₁ hnm hret hlk D0
  rw [ef_cSBT m b]
  refine g_newO D0 3 (hw _ w_129) (hw _ w_5) (hw _ w_6) d_jdk_67m42_0 (by decide) (by decide) (fun _ _ => trivial) rfl ?_
  intro T175 h175 a175 g175 E175 A175 N175 D175
  refine g_dup D175 4 d_jdk_67m42_3 rfl rfl ?_
  refine g_aloadN D175 5 d_jdk_67m42_4 rfl rfl rfl ?_
  refine g_callN D175 8 rfl (hw _ w_130) (hw _ w_131) (hw _ w_132) (by decide) ((cI1 l Z a0 hw [] a175 b t kt vs k cs zc h175 n0 (Nat.le_trans Z0 E175.1) (OLD.ext E175) CS hzc (E_b.ext E175) (F_v.ext E175) (F_c.ext E175) (F_n.ext E175) (V_t.ext E175) hv h8 hcs htk h255 A175 (N175 (Or.inr (hw _ w_20)) (ty := (.array .byte)) (by decide)) (N175 (Or.inr (hw _ w_21)) (ty := .byte) (by decide)) (Nat.le_trans Z0 (Nat.le_of_eq g175.symm))).back D175 1 (hw _ w_132) (hw _ w_6) (by decide) (by decide)) rfl [(.ref b)] rfl (lenOf pd_16 rfl) rfl (Nat.le_of_eq rfl) (by decide) (by decide) (fun _ _ _ _ => trivial) d_jdk_67m42_5 rfl ?_
  intro v176 T176 h176 L176 q176 D176
  obtain ⟨rfl, N176, K176, X176⟩ := q176
  have NF176 := Fr.app (Fr.nil n0) N176
  show Go p e below _ (T176.setTop (mkF m 8 #[.val (.ref b)] [(.ref a175)]))
  exact r_A D176 hret rfl rfl hlk d_jdk_67m42_8 ⟨a175, rfl, NF176, Keep.toExt (((Keep.refl _ []).ext E175).trans K176 (allS (Or.inr (Nat.le_trans (Nat.le_refl _) (Nat.le_of_eq g175.symm))) all0)), X176⟩ (by decide) (by decide)
set_option maxRecDepth 65536 in
set_option maxHeartbeats 40000000 in
theorem cTo_n (l : Launch) (Z : State) (a0 : Array Value) (hw : ∀ d ∈ tables_1, d.before a0 Z = true) (ws : List Jvm.Cond) (b r : Addr) (h0 : Heap) (n0 : Nat) (Z0 : n0 ≤ h0.size) (F1 : Fld Z h0 b "com/example/pactum/pactum/model/ResourceLogin" "resource" "Ljava/lang/String;" (.ref r)) (F2 : Fld Z h0 b "com/example/pactum/pactum/model/ResourceLogin" "user" "Ljava/lang/String;" .null) :
    Con l (⟨"com/example/pactum/pactum/model/ResourceLogin", "toString", "()Ljava/lang/String;"⟩ : MethodName) prog_9_method_2_code 1 (some (.object "java/lang/String")) ws ({ frames := 0, cells := 0, slots := 0, locals := 0 } : Room) Z #[(.ref b)] h0 (fun v h L => v = some (.ref r) ∧ L = [] ∧ h = h0) 0 0 := by
  refine enter (plainFor_of_name pn_3) ?_
  intro p e s m below meth c s₁ hnm hret hlk D0
  rw [ef_cTo_n m b]
  refine g_aloadN D0 1 d_prog_9m2_0 rfl rfl rfl ?_
  refine g_getF D0 4 (hw _ w_51) Via.refl F2 d_prog_9m2_1 rfl ?_
  intro T177 D177
  refine g_nnN D177 7 d_prog_9m2_4 rfl ?_
  refine g_aloadN D177 8 d_prog_9m2_7 rfl rfl rfl ?_
  refine g_getF D177 11 (hw _ w_49) Via.refl F1 d_prog_9m2_8 rfl ?_
  intro T178 D178
  refine g_goto D178 43 d_prog_9m2_11 (by decide) (by decide) ?_
  exact r_A D178 hret rfl rfl hlk d_prog_9m2_43 ⟨rfl, rfl, rfl⟩ (by decide) (by decide)
def Q_cTo_r (Z : State) (b r u : Addr) (rs us : List Int32) (zc : Int32) (h0 : Heap) (n0 : Nat) : Option Value → Heap → List Loc → Prop := (fun v h L => ∃ a, v = some (.ref a) ∧ Fr n0 L ∧ Ext h0 h ∧ LS Z h a (([] ++ rs) ++ own_as ++ us))
set_option maxRecDepth 65536 in
set_option maxHeartbeats 40000000 in
theorem cTo_r (l : Launch) (Z : State) (a0 : Array Value) (hw : ∀ d ∈ tables_1, d.before a0 Z = true) (ws : List Jvm.Cond) (b r u : Addr) (rs us : List Int32) (zc : Int32) (h0 : Heap) (n0 : Nat) (Z0 : n0 ≤ h0.size) (hEW : EW Z a0 consts_1) (OLD : Old Z n0 h0) (CS : Sta Z Z.heap "java/lang/String" "COMPACT_STRINGS" "Z" (.int zc)) (hzc : ¬ zc = 0) (E_b : Exa Z h0 b "com/example/pactum/pactum/model/ResourceLogin") (F1 : Fld Z h0 b "com/example/pactum/pactum/model/ResourceLogin" "resource" "Ljava/lang/String;" (.ref r)) (F2 : Fld Z h0 b "com/example/pactum/pactum/model/ResourceLogin" "user" "Ljava/lang/String;" (.ref u)) (X_r : LS Z h0 r rs) (X_u : LS Z h0 u us) (hr2 : rs.length ≤ 2) (hu2 : us.length ≤ 2) :
    ConW l (⟨"com/example/pactum/pactum/model/ResourceLogin", "toString", "()Ljava/lang/String;"⟩ : MethodName) prog_9_method_2_code 1 (some (.object "java/lang/String")) ws ({ frames := 6, cells := 6, slots := 60, locals := 140 } : Room) Z consts_1 #[(.ref b)] h0 (Q_cTo_r Z b r u rs us zc h0 n0) 6 60 := by
  refine enterW (plainFor_of_name pn_3) ?_
  intro p e s m below meth c s₁ hnm hret hlk D0
  rw [ef_cTo_r m b]
  obtain ⟨tr, kr, r1, r2, r3, r4, r5, r6⟩ := (id X_r)
  obtain ⟨tu, ku, u1, u2, u3, u4, u5, u6⟩ := (id X_u)
  refine g_aloadN D0 1 d_prog_9m2_0 rfl rfl rfl ?_
  refine g_getF D0 4 (hw _ w_51) Via.refl F2 d_prog_9m2_1 rfl ?_
  intro T179 D179
  refine g_nnY D179 14 d_prog_9m2_4 (by decide) (by decide) ?_
  refine g_newO D179 17 (hw _ w_58) (hw _ w_59) (hw _ w_60) d_prog_9m2_14 (by decide) (by decide) (fun _ E => D179.iv.ext E) rfl ?_
  intro T180 h180 a180 g180 E180 A180 N180 D180
  refine g_dup D180 18 d_prog_9m2_17 rfl rfl ?_
  refine g_callN D180 21 rfl (hw _ w_61) (hw _ w_62) (hw _ w_63) (by decide) ((cSBI l Z a0 hw [] a180 zc h180 n0 (Nat.le_trans Z0 E180.1) (OLD.ext E180) CS hzc A180 (N180 (Or.inl (hw _ w_73)) (ty := (.array .byte)) (by decide)) (N180 (Or.inl (hw _ w_75)) (ty := .byte) (by decide)) (N180 (Or.inl (hw _ w_97)) (ty := .int) (by decide)) (Nat.le_trans Z0 (Nat.le_of_eq g180.symm))).back D180 1 (hw _ w_63) (hw _ w_60) (by decide) (by decide)) rfl [] rfl (lenOf pd_2 rfl) rfl (Nat.le_of_eq rfl) (by decide) (by decide) (fun _ _ _ q => D180.iv.keep (sfS (Safe.exa D180.wm.alike A180 (by decide) (by decide)) sf0) q.2.2.1) d_prog_9m2_18 rfl ?_
  intro v181 T181 h181 L181 q181 D181
  obtain ⟨rfl, N181, K181, t, kt, gt, A181, Fv181, Fc181, Fn181, V181⟩ := q181
  have NF181 := Fr.app (Fr.nil n0) N181
  have St0 := D180.iv.safeKeep (sfS (Safe.exa D180.wm.alike A180 (by decide) (by decide)) sf0) K181 (Safe.new gt)
  show Go p e below _ (T181.setTop (mkF m 21 #[.val (.ref b)] [(.ref a180)]))
  have hv0 : (List.replicate 16 (Value.int (0 : Int32))).length = 16 := rfl
  have hp0 : (List.replicate 16 (Value.int (0 : Int32))).take ([] : List Int32).length = (([] : List Int32).map StrChars.lo8).map Value.int := rfl
  refine g_aloadN D181 22 d_prog_9m2_21 rfl rfl rfl ?_
  refine g_getF D181 25 (hw _ w_49) Via.refl ((F1.ext E180).keep K181 (ninS (Nat.ne_of_lt (Nat.lt_of_lt_of_le F1.lt (Nat.le_of_eq g180.symm))) nin0)) d_prog_9m2_22 rfl ?_
  intro T182 D182
  have hk0 : ([] : List Int32).length + rs.length ≤ 16 := by simp; omega
  refine g_callV D182 28 (hw _ w_76) (hw _ w_77) (notFace_of_selects (args := #[]) (mvT D182.wm (hw _ w_79))) (hw _ w_79) (hw _ w_78) (by decide) ((cAp l Z a0 hw [] a180 r t tr kt kr (List.replicate 16 (Value.int (0 : Int32))) rs ([] : List Int32).length zc h181 n0 (Nat.le_trans (Nat.le_trans Z0 E180.1) K181.1) ((OLD.ext E180).keep K181 (allS (Nat.le_trans Z0 (Nat.le_of_eq g180.symm)) all0)) CS hzc ((r1.ext E180).keep K181) ((r2.ext E180).keep K181 (ninS (Nat.ne_of_lt (Nat.lt_of_lt_of_le r1.lt (Nat.le_of_eq g180.symm))) nin0)) ((r3.ext E180).keep K181 (ninS (Nat.ne_of_lt (Nat.lt_of_lt_of_le r1.lt (Nat.le_of_eq g180.symm))) nin0)) ((r4.ext E180).keep K181 (ninS (Nat.ne_of_lt (Nat.lt_of_lt_of_le r4.lt (Nat.le_of_eq g180.symm))) nin0)) V181 hv0 hk0 (Nat.le_trans (Nat.le_trans Z0 E180.1) gt) A181 Fv181 Fc181 Fn181 (Nat.le_trans Z0 (Nat.le_of_eq g180.symm)) ⟨tr, kr, ((r1.ext E180).keep K181), ((r2.ext E180).keep K181 (ninS (Nat.ne_of_lt (Nat.lt_of_lt_of_le r1.lt (Nat.le_of_eq g180.symm))) nin0)), ((r3.ext E180).keep K181 (ninS (Nat.ne_of_lt (Nat.lt_of_lt_of_le r1.lt (Nat.le_of_eq g180.symm))) nin0)), ((r4.ext E180).keep K181 (ninS (Nat.ne_of_lt (Nat.lt_of_lt_of_le r4.lt (Nat.le_of_eq g180.symm))) nin0)), r5, r6⟩).back D182 0 (hw _ w_80) (hw _ w_60) (by decide) (by decide)) A181 rfl [(.ref r)] rfl (lenOf pd_17 rfl) rfl (Nat.le_of_eq rfl) (by decide) (by decide) (fun _ _ _ q => D182.iv.keep (sfS (Safe.exa D182.wm.alike A181 (by decide) (by decide)) (sfS St0 sf0)) q.2.2.1) d_prog_9m2_25 rfl ?_
  intro v183 T183 h183 L183 q183 D183
  obtain ⟨rfl, N183, K183, A183, Fv183, Fc183, Fn183, V183⟩ := q183
  have NF183 := Fr.app NF181 N183
  have St183 := D182.iv.safeKeep (sfS (Safe.exa D182.wm.alike A181 (by decide) (by decide)) (sfS St0 sf0)) K183 St0
  have P183 := own_splice (cs := ([] : List Int32)) (ds := rs) hv0 hk0 hp0
  obtain ⟨vs1, hvs1⟩ : ∃ z, z = ((List.replicate 16 (Value.int (0 : Int32))).take ([] : List Int32).length ++ (rs.map StrChars.lo8).map Value.int ++ (List.replicate 16 (Value.int (0 : Int32))).drop (([] : List Int32).length + rs.length)) := ⟨_, rfl⟩
  rw [← hvs1] at P183 V183
  obtain ⟨hv1, hp1⟩ := P183
  rw [← List.length_append] at Fn183
  show Go p e below _ (T183.setTop (mkF m 28 #[.val (.ref b)] [(.ref a180)]))
  refine g_ldcS D183 30 hEW (hw _ w_123) (fun a ha => hw a (wsa a ha)) (by decide) own_as 16 ⟨by decide, rfl⟩ ⟨by decide, by decide⟩ (by decide) (by decide) d_prog_9m2_28 (by decide) (by decide) rfl ?_
  intro s184 T184 h184 la184 lt184 lk184 E184 X184 C184 V184 A184 HS184 SF184 D184
  have St184 := SF184 t V183.lt St183
  have Sb184 : Safe Z consts_1 s184.vm h184 a180 := (Safe.exa D184.wm.alike (A183.ext E184) (by decide) (by decide))
  have hk1 : (([] : List Int32) ++ rs).length + own_as.length ≤ 16 := by simp [own_as]; omega
  refine g_callV D184 33 (hw _ w_76) (hw _ w_77) (notFace_of_selects (args := #[]) (mvT D184.wm (hw _ w_79))) (hw _ w_79) (hw _ w_78) (by decide) ((cAp l Z a0 hw [] a180 la184 t lt184 kt lk184 vs1 own_as (([] : List Int32) ++ rs).length zc h184 n0 (Nat.le_trans (Nat.le_trans (Nat.le_trans (Nat.le_trans Z0 E180.1) K181.1) K183.1) E184.1) ((((OLD.ext E180).keep K181 (allS (Nat.le_trans Z0 (Nat.le_of_eq g180.symm)) all0)).keep K183 (allS (Nat.le_trans Z0 (Nat.le_of_eq g180.symm)) (allS (Nat.le_trans (Nat.le_trans Z0 E180.1) gt) all0))).ext E184) CS hzc X184 C184 V184 A184 (V183.ext E184) hv1 hk1 (Nat.le_trans (Nat.le_trans Z0 E180.1) gt) (A183.ext E184) (Fv183.ext E184) (Fc183.ext E184) (Fn183.ext E184) (Nat.le_trans Z0 (Nat.le_of_eq g180.symm)) ⟨lt184, lk184, X184, C184, V184, A184, own_b8as, by decide⟩).back D184 0 (hw _ w_80) (hw _ w_60) (by decide) (by decide)) (A183.ext E184) rfl [(.ref la184)] rfl (lenOf pd_17 rfl) rfl (Nat.le_of_eq rfl) (by decide) (by decide) (fun _ _ _ q => D184.iv.keep (sfS (Safe.exa D184.wm.alike (A183.ext E184) (by decide) (by decide)) (sfS St184 sf0)) q.2.2.1) d_prog_9m2_30 rfl ?_
  intro v185 T185 h185 L185 q185 D185
  obtain ⟨rfl, N185, K185, A185, Fv185, Fc185, Fn185, V185⟩ := q185
  have NF185 := Fr.app NF183 N185
  have St185 := D184.iv.safeKeep (sfS (Safe.exa D184.wm.alike (A183.ext E184) (by decide) (by decide)) (sfS St184 sf0)) K185 St184
  have P185 := own_splice (cs := (([] : List Int32) ++ rs)) (ds := own_as) hv1 hk1 hp1
  obtain ⟨vs2, hvs2⟩ : ∃ z, z = (vs1.take (([] : List Int32) ++ rs).length ++ (own_as.map StrChars.lo8).map Value.int ++ vs1.drop ((([] : List Int32) ++ rs).length + own_as.length)) := ⟨_, rfl⟩
  rw [← hvs2] at P185 V185
  obtain ⟨hv2, hp2⟩ := P185
  rw [← List.length_append] at Fn185
  show Go p e below _ (T185.setTop (mkF m 33 #[.val (.ref b)] [(.ref a180)]))
  refine g_aloadN D185 34 d_prog_9m2_33 rfl rfl rfl ?_
  refine g_getF D185 37 (hw _ w_51) Via.refl (((((F2.ext E180).keep K181 (ninS (Nat.ne_of_lt (Nat.lt_of_lt_of_le F1.lt (Nat.le_of_eq g180.symm))) nin0)).keep K183 (ninS (Nat.ne_of_lt (Nat.lt_of_lt_of_le F1.lt (Nat.le_of_eq g180.symm))) (ninS (Nat.ne_of_lt (Nat.lt_of_lt_of_le (Nat.lt_of_lt_of_le F1.lt E180.1) gt)) nin0))).ext E184).keep K185 (ninS (Nat.ne_of_lt (Nat.lt_of_lt_of_le F1.lt (Nat.le_of_eq g180.symm))) (ninS (Nat.ne_of_lt (Nat.lt_of_lt_of_le (Nat.lt_of_lt_of_le F1.lt E180.1) gt)) nin0))) d_prog_9m2_34 rfl ?_
  intro T186 D186
  have hk2 : ((([] : List Int32) ++ rs) ++ own_as).length + us.length ≤ 16 := by simp [own_as]; omega
  refine g_callV D186 40 (hw _ w_76) (hw _ w_77) (notFace_of_selects (args := #[]) (mvT D186.wm (hw _ w_79))) (hw _ w_79) (hw _ w_78) (by decide) ((cAp l Z a0 hw [] a180 u t tu kt ku vs2 us ((([] : List Int32) ++ rs) ++ own_as).length zc h185 n0 (Nat.le_trans (Nat.le_trans (Nat.le_trans (Nat.le_trans (Nat.le_trans Z0 E180.1) K181.1) K183.1) E184.1) K185.1) (((((OLD.ext E180).keep K181 (allS (Nat.le_trans Z0 (Nat.le_of_eq g180.symm)) all0)).keep K183 (allS (Nat.le_trans Z0 (Nat.le_of_eq g180.symm)) (allS (Nat.le_trans (Nat.le_trans Z0 E180.1) gt) all0))).ext E184).keep K185 (allS (Nat.le_trans Z0 (Nat.le_of_eq g180.symm)) (allS (Nat.le_trans (Nat.le_trans Z0 E180.1) gt) all0))) CS hzc (((((u1.ext E180).keep K181).keep K183).ext E184).keep K185) (((((u2.ext E180).keep K181 (ninS (Nat.ne_of_lt (Nat.lt_of_lt_of_le u1.lt (Nat.le_of_eq g180.symm))) nin0)).keep K183 (ninS (Nat.ne_of_lt (Nat.lt_of_lt_of_le u1.lt (Nat.le_of_eq g180.symm))) (ninS (Nat.ne_of_lt (Nat.lt_of_lt_of_le (Nat.lt_of_lt_of_le u1.lt E180.1) gt)) nin0))).ext E184).keep K185 (ninS (Nat.ne_of_lt (Nat.lt_of_lt_of_le u1.lt (Nat.le_of_eq g180.symm))) (ninS (Nat.ne_of_lt (Nat.lt_of_lt_of_le (Nat.lt_of_lt_of_le u1.lt E180.1) gt)) nin0))) (((((u3.ext E180).keep K181 (ninS (Nat.ne_of_lt (Nat.lt_of_lt_of_le u1.lt (Nat.le_of_eq g180.symm))) nin0)).keep K183 (ninS (Nat.ne_of_lt (Nat.lt_of_lt_of_le u1.lt (Nat.le_of_eq g180.symm))) (ninS (Nat.ne_of_lt (Nat.lt_of_lt_of_le (Nat.lt_of_lt_of_le u1.lt E180.1) gt)) nin0))).ext E184).keep K185 (ninS (Nat.ne_of_lt (Nat.lt_of_lt_of_le u1.lt (Nat.le_of_eq g180.symm))) (ninS (Nat.ne_of_lt (Nat.lt_of_lt_of_le (Nat.lt_of_lt_of_le u1.lt E180.1) gt)) nin0))) (((((u4.ext E180).keep K181 (ninS (Nat.ne_of_lt (Nat.lt_of_lt_of_le u4.lt (Nat.le_of_eq g180.symm))) nin0)).keep K183 (ninS (Nat.ne_of_lt (Nat.lt_of_lt_of_le u4.lt (Nat.le_of_eq g180.symm))) (ninS (Nat.ne_of_lt (Nat.lt_of_lt_of_le (Nat.lt_of_lt_of_le u4.lt E180.1) gt)) nin0))).ext E184).keep K185 (ninS (Nat.ne_of_lt (Nat.lt_of_lt_of_le u4.lt (Nat.le_of_eq g180.symm))) (ninS (Nat.ne_of_lt (Nat.lt_of_lt_of_le (Nat.lt_of_lt_of_le u4.lt E180.1) gt)) nin0))) V185 hv2 hk2 (Nat.le_trans (Nat.le_trans Z0 E180.1) gt) A185 Fv185 Fc185 Fn185 (Nat.le_trans Z0 (Nat.le_of_eq g180.symm)) ⟨tu, ku, (((((u1.ext E180).keep K181).keep K183).ext E184).keep K185), (((((u2.ext E180).keep K181 (ninS (Nat.ne_of_lt (Nat.lt_of_lt_of_le u1.lt (Nat.le_of_eq g180.symm))) nin0)).keep K183 (ninS (Nat.ne_of_lt (Nat.lt_of_lt_of_le u1.lt (Nat.le_of_eq g180.symm))) (ninS (Nat.ne_of_lt (Nat.lt_of_lt_of_le (Nat.lt_of_lt_of_le u1.lt E180.1) gt)) nin0))).ext E184).keep K185 (ninS (Nat.ne_of_lt (Nat.lt_of_lt_of_le u1.lt (Nat.le_of_eq g180.symm))) (ninS (Nat.ne_of_lt (Nat.lt_of_lt_of_le (Nat.lt_of_lt_of_le u1.lt E180.1) gt)) nin0))), (((((u3.ext E180).keep K181 (ninS (Nat.ne_of_lt (Nat.lt_of_lt_of_le u1.lt (Nat.le_of_eq g180.symm))) nin0)).keep K183 (ninS (Nat.ne_of_lt (Nat.lt_of_lt_of_le u1.lt (Nat.le_of_eq g180.symm))) (ninS (Nat.ne_of_lt (Nat.lt_of_lt_of_le (Nat.lt_of_lt_of_le u1.lt E180.1) gt)) nin0))).ext E184).keep K185 (ninS (Nat.ne_of_lt (Nat.lt_of_lt_of_le u1.lt (Nat.le_of_eq g180.symm))) (ninS (Nat.ne_of_lt (Nat.lt_of_lt_of_le (Nat.lt_of_lt_of_le u1.lt E180.1) gt)) nin0))), (((((u4.ext E180).keep K181 (ninS (Nat.ne_of_lt (Nat.lt_of_lt_of_le u4.lt (Nat.le_of_eq g180.symm))) nin0)).keep K183 (ninS (Nat.ne_of_lt (Nat.lt_of_lt_of_le u4.lt (Nat.le_of_eq g180.symm))) (ninS (Nat.ne_of_lt (Nat.lt_of_lt_of_le (Nat.lt_of_lt_of_le u4.lt E180.1) gt)) nin0))).ext E184).keep K185 (ninS (Nat.ne_of_lt (Nat.lt_of_lt_of_le u4.lt (Nat.le_of_eq g180.symm))) (ninS (Nat.ne_of_lt (Nat.lt_of_lt_of_le (Nat.lt_of_lt_of_le u4.lt E180.1) gt)) nin0))), u5, u6⟩).back D186 0 (hw _ w_80) (hw _ w_60) (by decide) (by decide)) A185 rfl [(.ref u)] rfl (lenOf pd_17 rfl) rfl (Nat.le_of_eq rfl) (by decide) (by decide) (fun _ _ _ q => D186.iv.keep (sfS (Safe.exa D186.wm.alike A185 (by decide) (by decide)) (sfS St185 sf0)) q.2.2.1) d_prog_9m2_37 rfl ?_
  intro v187 T187 h187 L187 q187 D187
  obtain ⟨rfl, N187, K187, A187, Fv187, Fc187, Fn187, V187⟩ := q187
  have NF187 := Fr.app NF185 N187
  have St187 := D186.iv.safeKeep (sfS (Safe.exa D186.wm.alike A185 (by decide) (by decide)) (sfS St185 sf0)) K187 St185
  have P187 := own_splice (cs := ((([] : List Int32) ++ rs) ++ own_as)) (ds := us) hv2 hk2 hp2
  obtain ⟨vs3, hvs3⟩ : ∃ z, z = (vs2.take ((([] : List Int32) ++ rs) ++ own_as).length ++ (us.map StrChars.lo8).map Value.int ++ vs2.drop (((([] : List Int32) ++ rs) ++ own_as).length + us.length)) := ⟨_, rfl⟩
  rw [← hvs3] at P187 V187
  obtain ⟨hv3, hp3⟩ := P187
  rw [← List.length_append] at Fn187
  show Go p e below _ (T187.setTop (mkF m 40 #[.val (.ref b)] [(.ref a180)]))
  refine g_callV D187 43 (hw _ w_124) (hw _ w_125) (notFace_of_selects (args := #[]) (mvT D187.wm (hw _ w_127))) (hw _ w_127) (hw _ w_126) (by decide) ((cSBT l Z a0 hw [] a180 t kt vs3 (((([] : List Int32) ++ rs) ++ own_as) ++ us).length (((([] : List Int32) ++ rs) ++ own_as) ++ us) zc h187 n0 (Nat.le_trans (Nat.le_trans (Nat.le_trans (Nat.le_trans (Nat.le_trans (Nat.le_trans Z0 E180.1) K181.1) K183.1) E184.1) K185.1) K187.1) ((((((OLD.ext E180).keep K181 (allS (Nat.le_trans Z0 (Nat.le_of_eq g180.symm)) all0)).keep K183 (allS (Nat.le_trans Z0 (Nat.le_of_eq g180.symm)) (allS (Nat.le_trans (Nat.le_trans Z0 E180.1) gt) all0))).ext E184).keep K185 (allS (Nat.le_trans Z0 (Nat.le_of_eq g180.symm)) (allS (Nat.le_trans (Nat.le_trans Z0 E180.1) gt) all0))).keep K187 (allS (Nat.le_trans Z0 (Nat.le_of_eq g180.symm)) (allS (Nat.le_trans (Nat.le_trans Z0 E180.1) gt) all0))) CS hzc A187 Fv187 Fc187 Fn187 V187 hv3 (by simp [own_as]; omega) rfl hp3 (own_b8app (own_b8app (own_b8app b8_nil r5) own_b8as) u5)).back D187 0 (hw _ w_128) (hw _ w_60) (by decide) (by decide)) A187 rfl [] rfl (lenOf pd_18 rfl) rfl (Nat.le_of_eq rfl) (by decide) (by decide) (fun _ _ _ q => by obtain ⟨_, _, _, E, _⟩ := q; exact D187.iv.ext E) d_prog_9m2_40 rfl ?_
  intro v188 T188 h188 L188 q188 D188
  obtain ⟨y188, rfl, N188, E188, X188⟩ := q188
  have NF188 := Fr.app NF187 N188
  show Go p e below _ (T188.setTop (mkF m 43 #[.val (.ref b)] [(.ref y188)]))
  exact r_Aw D188 hEW hret rfl rfl hlk d_prog_9m2_43 ⟨y188, rfl, NF188, Keep.toExt ((((((((Keep.refl _ []).ext E180).trans K181 (allS (Or.inr (Nat.le_trans (Nat.le_refl _) (Nat.le_of_eq g180.symm))) all0)).trans K183 (allS (Or.inr (Nat.le_trans (Nat.le_refl _) (Nat.le_of_eq g180.symm))) (allS (Or.inr (Nat.le_trans (Nat.le_trans (Nat.le_refl _) E180.1) gt)) all0))).ext E184).trans K185 (allS (Or.inr (Nat.le_trans (Nat.le_refl _) (Nat.le_of_eq g180.symm))) (allS (Or.inr (Nat.le_trans (Nat.le_trans (Nat.le_refl _) E180.1) gt)) all0))).trans K187 (allS (Or.inr (Nat.le_trans (Nat.le_refl _) (Nat.le_of_eq g180.symm))) (allS (Or.inr (Nat.le_trans (Nat.le_trans (Nat.le_refl _) E180.1) gt)) all0))).ext E188), X188⟩ (by decide) (by decide)
set_option maxRecDepth 65536 in
set_option maxHeartbeats 40000000 in
theorem cEx (l : Launch) (Z : State) (a0 : Array Value) (hw : ∀ d ∈ tables_1, d.before a0 Z = true) (ws : List Jvm.Cond) (i r a1 a2 a3 a4 : Int32) (h0 : Heap) (n0 : Nat) (Z0 : n0 ≤ h0.size) (Ba1 : B8 a1) (Ba2 : B8 a2) (Ba3 : B8 a3) (Ba4 : B8 a4) :
    Con l (⟨"com/example/pactum/pactum/model/ResourceLoginToStringPinLaw", "expectedAt", "(IICCCC)C"⟩ : MethodName) method_3_code 7 (some .char) ws ({ frames := 0, cells := 0, slots := 0, locals := 0 } : Room) Z #[(.int i), (.int r), (.int a1), (.int a2), (.int a3), (.int a4)] h0 (fun v h L => v = some (.int (own_exp i r a1 a2 a3 a4)) ∧ L = [] ∧ h = h0) 0 0 := by
  refine enter (plainFor_of_name pn_1) ?_
  intro p e s m below meth c s₁ hnm hret hlk D0
  rw [ef_cEx m i r a1 a2 a3 a4]
  refine g_iloadN D0 1 d_method_3_0 rfl rfl ?_
  refine g_iloadN D0 2 d_method_3_1 rfl rfl ?_
  by_cases z0 : i < r
  · refine g_icmpN D0 5 d_method_3_2 (tlt z0).2.1 rfl ?_
    refine g_iloadN D0 6 d_method_3_5 rfl rfl ?_
    by_cases z1 : i = (0 : Int32)
    · refine g_ifN D0 9 d_method_3_6 (teq z1).2 rfl ?_
      refine g_iloadN D0 10 d_method_3_9 rfl rfl ?_
      refine g_goto D0 14 d_method_3_10 (by decide) (by decide) ?_
      exact r_N D0 hret (by simp) hlk d_method_3_14 ⟨congrArg (fun z => some (Value.int z)) ((nar_c Ba1).trans (by rw [own_exp, if_pos z0, if_pos z1])), rfl, rfl⟩ (by decide) (by decide)
    refine g_ifY D0 13 d_method_3_6 (feq z1).2 (by decide) (by decide) ?_
    refine g_iloadN D0 14 d_method_3_13 rfl rfl ?_
    exact r_N D0 hret (by simp) hlk d_method_3_14 ⟨congrArg (fun z => some (Value.int z)) ((nar_c Ba2).trans (by rw [own_exp, if_pos z0, if_neg z1])), rfl, rfl⟩ (by decide) (by decide)
  refine g_icmpY D0 15 d_method_3_2 (flt z0).2.1 (by decide) (by decide) ?_
  refine g_iloadN D0 16 d_method_3_15 rfl rfl ?_
  refine g_iloadN D0 17 d_method_3_16 rfl rfl ?_
  refine g_isub D0 18 d_method_3_17 rfl ?_
  refine g_istore D0 20 #[.val (.int i), .val (.int r), .val (.int a1), .val (.int a2), .val (.int a3), .val (.int a4), .val (.int (i - r))] d_method_3_18 rfl rfl ?_
  refine g_iload D0 22 d_method_3_20 rfl rfl ?_
  by_cases z1 : (i - r) = (0 : Int32)
  · refine g_ifN D0 25 d_method_3_22 (teq z1).2 rfl ?_
    refine g_bipush D0 27 (32 : Int32) d_method_3_25 rfl rfl ?_
    exact r_N D0 hret (by simp) hlk d_method_3_27 ⟨congrArg (fun z => some (Value.int z)) ((by decide : nar .char (32 : Int32) = (32 : Int32)).trans (by rw [own_exp, if_neg z0, if_pos z1])), rfl, rfl⟩ (by decide) (by decide)
  refine g_ifY D0 28 d_method_3_22 (feq z1).2 (by decide) (by decide) ?_
  refine g_iload D0 30 d_method_3_28 rfl rfl ?_
  refine g_iconst D0 31 (1 : Int32) d_method_3_30 rfl rfl ?_
  by_cases z2 : (i - r) = (1 : Int32)
  · refine g_icmpN D0 34 d_method_3_31 (teq z2).2 rfl ?_
    refine g_bipush D0 36 (97 : Int32) d_method_3_34 rfl rfl ?_
    exact r_N D0 hret (by simp) hlk d_method_3_36 ⟨congrArg (fun z => some (Value.int z)) ((by decide : nar .char (97 : Int32) = (97 : Int32)).trans (by rw [own_exp, if_neg z0, if_neg z1, if_pos z2])), rfl, rfl⟩ (by decide) (by decide)
  refine g_icmpY D0 37 d_method_3_31 (feq z2).2 (by decide) (by decide) ?_
  refine g_iload D0 39 d_method_3_37 rfl rfl ?_
  refine g_iconst D0 40 (2 : Int32) d_method_3_39 rfl rfl ?_
  by_cases z3 : (i - r) = (2 : Int32)
  · refine g_icmpN D0 43 d_method_3_40 (teq z3).2 rfl ?_
    refine g_bipush D0 45 (115 : Int32) d_method_3_43 rfl rfl ?_
    exact r_N D0 hret (by simp) hlk d_method_3_45 ⟨congrArg (fun z => some (Value.int z)) ((by decide : nar .char (115 : Int32) = (115 : Int32)).trans (by rw [own_exp, if_neg z0, if_neg z1, if_neg z2, if_pos z3])), rfl, rfl⟩ (by decide) (by decide)
  refine g_icmpY D0 46 d_method_3_40 (feq z3).2 (by decide) (by decide) ?_
  refine g_iload D0 48 d_method_3_46 rfl rfl ?_
  refine g_iconst D0 49 (3 : Int32) d_method_3_48 rfl rfl ?_
  by_cases z4 : (i - r) = (3 : Int32)
  · refine g_icmpN D0 52 d_method_3_49 (teq z4).2 rfl ?_
    refine g_bipush D0 54 (32 : Int32) d_method_3_52 rfl rfl ?_
    exact r_N D0 hret (by simp) hlk d_method_3_54 ⟨congrArg (fun z => some (Value.int z)) ((by decide : nar .char (32 : Int32) = (32 : Int32)).trans (by rw [own_exp, if_neg z0, if_neg z1, if_neg z2, if_neg z3, if_pos z4])), rfl, rfl⟩ (by decide) (by decide)
  refine g_icmpY D0 55 d_method_3_49 (feq z4).2 (by decide) (by decide) ?_
  refine g_iload D0 57 d_method_3_55 rfl rfl ?_
  refine g_iconst D0 58 (4 : Int32) d_method_3_57 rfl rfl ?_
  by_cases z5 : (i - r) = (4 : Int32)
  · refine g_icmpN D0 61 d_method_3_58 (teq z5).2 rfl ?_
    refine g_iload D0 63 d_method_3_61 rfl rfl ?_
    refine g_goto D0 68 d_method_3_63 (by decide) (by decide) ?_
    exact r_N D0 hret (by simp) hlk d_method_3_68 ⟨congrArg (fun z => some (Value.int z)) ((nar_c Ba3).trans (by rw [own_exp, if_neg z0, if_neg z1, if_neg z2, if_neg z3, if_neg z4, if_pos z5])), rfl, rfl⟩ (by decide) (by decide)
  refine g_icmpY D0 66 d_method_3_58 (feq z5).2 (by decide) (by decide) ?_
  refine g_iload D0 68 d_method_3_66 rfl rfl ?_
  exact r_N D0 hret (by simp) hlk d_method_3_68 ⟨congrArg (fun z => some (Value.int z)) ((nar_c Ba4).trans (by rw [own_exp, if_neg z0, if_neg z1, if_neg z2, if_neg z3, if_neg z4, if_neg z5])), rfl, rfl⟩ (by decide) (by decide)
set_option maxRecDepth 65536 in
set_option maxHeartbeats 40000000 in
theorem cAt (l : Launch) (Z : State) (a0 : Array Value) (hw : ∀ d ∈ tables_1, d.before a0 Z = true) (ws : List Jvm.Cond) (x : Addr) (i N r a1 a2 a3 a4 zc : Int32) (fm : Value) (cs : List Int32) (j : Nat) (h0 : Heap) (n0 : Nat) (Z0 : n0 ≤ h0.size) (OLD : Old Z n0 h0) (CS : Sta Z Z.heap "java/lang/String" "COMPACT_STRINGS" "Z" (.int zc)) (hzc : ¬ zc = 0) (SFm : Sta Z Z.heap "jdk/internal/util/Preconditions" "SIOOBE_FORMATTER" "Ljava/util/function/BiFunction;" fm) (rfm : fm.isRef = true) (X_x : LS Z h0 x cs) (hat : ¬ i < N ∨ (i < N ∧ i = Int32.ofNat j ∧ j < cs.length ∧ cs.getD j 0 = own_exp i r a1 a2 a3 a4)) (Ba1 : B8 a1) (Ba2 : B8 a2) (Ba3 : B8 a3) (Ba4 : B8 a4) :
    Con l (⟨"com/example/pactum/pactum/model/ResourceLoginToStringPinLaw", "at", "(Ljava/lang/String;IIICCCC)Z"⟩ : MethodName) method_4_code 8 (some .boolean) ws ({ frames := 4, cells := 0, slots := 0, locals := 60 } : Room) Z #[(.ref x), (.int i), (.int N), (.int r), (.int a1), (.int a2), (.int a3), (.int a4)] h0 (fun v h L => v = some (.int (1 : Int32)) ∧ L = [] ∧ h = h0) 0 0 := by
  refine enter (plainFor_of_name pn_1) ?_
  intro p e s m below meth c s₁ hnm hret hlk D0
  rw [ef_cAt m x i N r a1 a2 a3 a4]
  rcases hat with z0 | ⟨z0, rfl, hj, hg⟩
  · refine g_iloadN D0 1 d_method_4_0 rfl rfl ?_
    refine g_iloadN D0 2 d_method_4_1 rfl rfl ?_
    refine g_icmpY D0 26 d_method_4_2 (flt z0).2.1 (by decide) (by decide) ?_
    refine g_iconst D0 27 (1 : Int32) d_method_4_26 rfl rfl ?_
    refine g_goto D0 31 d_method_4_27 (by decide) (by decide) ?_
    exact r_N D0 hret (by simp) hlk d_method_4_31 ⟨own_r1, rfl, rfl⟩ (by decide) (by decide)
  · refine g_iloadN D0 1 d_method_4_0 rfl rfl ?_
    refine g_iloadN D0 2 d_method_4_1 rfl rfl ?_
    refine g_icmpN D0 5 d_method_4_2 (tlt z0).2.1 rfl ?_
    obtain ⟨tx, kx, x1, x2, x3, x4, x5, x6⟩ := X_x
    refine g_aloadN D0 6 d_method_4_5 rfl rfl rfl ?_
    refine g_iloadN D0 7 d_method_4_6 rfl rfl ?_
    refine g_callVp D0 10 (hw _ w_173) (hw _ w_174) (notFace_of_selects (args := #[]) (mvT D0.wm (hw _ w_176))) (hw _ w_176) (hw _ w_175) (by decide) (StrChars.Road.chN (W := 0) D0.wm (fun d hd => hw d (wchn d hd)) (kI := 4) (hw _ w_5) x1 x3 x2 x4 (StrChars.Road.codOf rfl (fun c hc => (x5 c hc).2)) (up255 x5) (CS.ext OLD.2) hzc (SFm.ext OLD.2) rfm x6 hj rfl (by decide) (by decide)) x1 rfl [(.int (Int32.ofNat j))] rfl (lenOf pd_19 rfl) rfl (Nat.le_of_eq rfl) (by decide) (by decide) d_method_4_7 rfl ?_
    intro v189 T189 q189 D189
    subst q189
    show Go p e below _ (T189.setTop (mkF m 10 #[.val (.ref x), .val (.int (Int32.ofNat j)), .val (.int N), .val (.int r), .val (.int a1), .val (.int a2), .val (.int a3), .val (.int a4)] [(.int (cs.getD j 0))]))
    refine g_iloadN D189 11 d_method_4_10 rfl rfl ?_
    refine g_iloadN D189 12 d_method_4_11 rfl rfl ?_
    refine g_iload D189 14 d_method_4_12 rfl rfl ?_
    refine g_iload D189 16 d_method_4_14 rfl rfl ?_
    refine g_iload D189 18 d_method_4_16 rfl rfl ?_
    refine g_iload D189 20 d_method_4_18 rfl rfl ?_
    refine g_callSp D189 23 (hw _ w_195) (hw _ w_196) (hw _ w_2) (hw _ w_197) (by decide) ((cEx l Z a0 hw [] (Int32.ofNat j) r a1 a2 a3 a4 h0 n0 Z0 Ba1 Ba2 Ba3 Ba4).back D189 1 (hw _ w_197) (hw _ w_2) (by decide) (by decide)) rfl [(.int (Int32.ofNat j)), (.int r), (.int a1), (.int a2), (.int a3), (.int a4)] rfl (lenOf pd_20 rfl) rfl (Nat.le_of_eq rfl) (by decide) (by decide) d_method_4_20 rfl ?_
    intro v190 T190 q190 D190
    subst q190
    show Go p e below _ (T190.setTop (mkF m 23 #[.val (.ref x), .val (.int (Int32.ofNat j)), .val (.int N), .val (.int r), .val (.int a1), .val (.int a2), .val (.int a3), .val (.int a4)] [(.int (own_exp (Int32.ofNat j) r a1 a2 a3 a4)), (.int (cs.getD j 0))]))
    refine g_icmpN D190 26 d_method_4_23 (teq hg).2 rfl ?_
    refine g_iconst D190 27 (1 : Int32) d_method_4_26 rfl rfl ?_
    refine g_goto D190 31 d_method_4_27 (by decide) (by decide) ?_
    exact r_N D190 hret (by simp) hlk d_method_4_31 ⟨own_r1, rfl, rfl⟩ (by decide) (by decide)
set_option maxRecDepth 65536 in
set_option maxHeartbeats 40000000 in
theorem cX (l : Launch) (Z : State) (a0 : Array Value) (hw : ∀ d ∈ tables_1, d.before a0 Z = true) (ws : List Jvm.Cond) (i1 i2 zc : Int32) (fm : Value) (h0 : Heap) (n0 : Nat) (Z0 : n0 ≤ h0.size) (hEW : EW Z a0 consts_1) (OLD : Old Z n0 h0) (CS : Sta Z Z.heap "java/lang/String" "COMPACT_STRINGS" "Z" (.int zc)) (hzc : ¬ zc = 0) (SFm : Sta Z Z.heap "jdk/internal/util/Preconditions" "SIOOBE_FORMATTER" "Ljava/util/function/BiFunction;" fm) (rfm : fm.isRef = true) :
    ConW l x code maxLocals ret ws room_1 Z consts_1 #[(.int i1), (.int i2)] h0 (fun v h L => v = some (.int 1) ∧ Fr n0 L) 40 2240 := by
  refine enterW (plainFor_of_name pn_1) ?_
  intro p e s m below meth c s₁ hnm hret hlk D0
  rw [ef_cX m i1 i2]
  refine g_iloadN D0 1 at_0 rfl rfl ?_
  refine g_iconst D0 2 (3 : Int32) at_1 rfl rfl ?_
  refine g_iand D0 3 at_2 rfl ?_
  refine g_iconst D0 4 (3 : Int32) at_3 rfl rfl ?_
  refine g_irem D0 5 at_4 (by decide) rfl ?_
  refine g_istoreN D0 6 #[.val (.int i1), .val (.int i2), .val (.int ((i1 &&& (3 : Int32)) % (3 : Int32))), .unset, .unset, .unset, .unset, .unset, .unset, .unset, .unset, .unset, .unset] at_5 rfl rfl ?_
  refine g_iloadN D0 7 at_6 rfl rfl ?_
  refine g_iconst D0 8 (2 : Int32) at_7 rfl rfl ?_
  refine g_iushr D0 9 at_8 rfl ?_
  refine g_sipush D0 12 (255 : Int32) at_9 rfl rfl ?_
  refine g_iand D0 13 at_12 rfl ?_
  refine g_i2c D0 14 at_13 rfl ?_
  refine g_istoreN D0 15 #[.val (.int i1), .val (.int i2), .val (.int ((i1 &&& (3 : Int32)) % (3 : Int32))), .val (.int (((XT.ushr i1 (2 : Int32)) &&& (255 : Int32)).toUInt32.toUInt16.toUInt32.toInt32)), .unset, .unset, .unset, .unset, .unset, .unset, .unset, .unset, .unset] at_14 rfl rfl ?_
  refine g_iloadN D0 16 at_15 rfl rfl ?_
  refine g_bipush D0 18 (10 : Int32) at_16 rfl rfl ?_
  refine g_iushr D0 19 at_18 rfl ?_
  refine g_sipush D0 22 (255 : Int32) at_19 rfl rfl ?_
  refine g_iand D0 23 at_22 rfl ?_
  refine g_i2c D0 24 at_23 rfl ?_
  refine g_istore D0 26 #[.val (.int i1), .val (.int i2), .val (.int ((i1 &&& (3 : Int32)) % (3 : Int32))), .val (.int (((XT.ushr i1 (2 : Int32)) &&& (255 : Int32)).toUInt32.toUInt16.toUInt32.toInt32)), .val (.int (((XT.ushr i1 (10 : Int32)) &&& (255 : Int32)).toUInt32.toUInt16.toUInt32.toInt32)), .unset, .unset, .unset, .unset, .unset, .unset, .unset, .unset] at_24 rfl rfl ?_
  generalize herl : ((i1 &&& (3 : Int32)) % (3 : Int32)) = rl
  have hrl : (0 ≤ rl.toInt ∧ rl.toInt ≤ 2) := herl ▸ own_rem3 _
  generalize hea1 : (((XT.ushr i1 (2 : Int32)) &&& (255 : Int32)).toUInt32.toUInt16.toUInt32.toInt32) = a1
  have Ba1 : B8 a1 := hea1 ▸ b8_i2c _
  generalize hea2 : (((XT.ushr i1 (10 : Int32)) &&& (255 : Int32)).toUInt32.toUInt16.toUInt32.toInt32) = a2
  have Ba2 : B8 a2 := hea2 ▸ b8_i2c _
  refine g_iloadN D0 27 at_26 rfl rfl ?_
  refine g_iconst D0 28 (1 : Int32) at_27 rfl rfl ?_
  refine g_iand D0 29 at_28 rfl ?_
  suffices K191 : ∀ us : Int32, (us = (0 : Int32) ∨ us = (1 : Int32)) → Go p e below (WG Z consts_1 s (fun v h L => v = some (.int 1) ∧ Fr n0 L) 40 2240) (s₁.setTop (mkF m 37 #[.val (.int i1), .val (.int i2), .val (.int rl), .val (.int a1), .val (.int a2), .unset, .unset, .unset, .unset, .unset, .unset, .unset, .unset] [(.int us)])) by
    by_cases hr192 : (i2 &&& (1 : Int32)) = (0 : Int32)
    · refine g_ifY D0 36 at_29 (teq hr192).1 (by decide) (by decide) ?_
      refine g_iconst D0 37 (0 : Int32) at_36 rfl rfl ?_
      exact K191 _ (Or.inl rfl)
    refine g_ifN D0 32 at_29 (feq hr192).1 rfl ?_
    refine g_iconst D0 33 (1 : Int32) at_32 rfl rfl ?_
    refine g_goto D0 37 at_33 (by decide) (by decide) ?_
    exact K191 _ (Or.inr rfl)
  intro us hus
  refine g_istore D0 39 #[.val (.int i1), .val (.int i2), .val (.int rl), .val (.int a1), .val (.int a2), .val (.int us), .unset, .unset, .unset, .unset, .unset, .unset, .unset] at_37 rfl rfl ?_
  refine g_iloadN D0 40 at_39 rfl rfl ?_
  refine g_iconst D0 41 (1 : Int32) at_40 rfl rfl ?_
  refine g_iushr D0 42 at_41 rfl ?_
  refine g_iconst D0 43 (3 : Int32) at_42 rfl rfl ?_
  refine g_iand D0 44 at_43 rfl ?_
  refine g_iconst D0 45 (3 : Int32) at_44 rfl rfl ?_
  refine g_irem D0 46 at_45 (by decide) rfl ?_
  refine g_istore D0 48 #[.val (.int i1), .val (.int i2), .val (.int rl), .val (.int a1), .val (.int a2), .val (.int us), .val (.int (((XT.ushr i2 (1 : Int32)) &&& (3 : Int32)) % (3 : Int32))), .unset, .unset, .unset, .unset, .unset, .unset] at_46 rfl rfl ?_
  refine g_iloadN D0 49 at_48 rfl rfl ?_
  refine g_iconst D0 50 (3 : Int32) at_49 rfl rfl ?_
  refine g_iushr D0 51 at_50 rfl ?_
  refine g_sipush D0 54 (255 : Int32) at_51 rfl rfl ?_
  refine g_iand D0 55 at_54 rfl ?_
  refine g_i2c D0 56 at_55 rfl ?_
  refine g_istore D0 58 #[.val (.int i1), .val (.int i2), .val (.int rl), .val (.int a1), .val (.int a2), .val (.int us), .val (.int (((XT.ushr i2 (1 : Int32)) &&& (3 : Int32)) % (3 : Int32))), .val (.int (((XT.ushr i2 (3 : Int32)) &&& (255 : Int32)).toUInt32.toUInt16.toUInt32.toInt32)), .unset, .unset, .unset, .unset, .unset] at_56 rfl rfl ?_
  refine g_iloadN D0 59 at_58 rfl rfl ?_
  refine g_bipush D0 61 (11 : Int32) at_59 rfl rfl ?_
  refine g_iushr D0 62 at_61 rfl ?_
  refine g_sipush D0 65 (255 : Int32) at_62 rfl rfl ?_
  refine g_iand D0 66 at_65 rfl ?_
  refine g_i2c D0 67 at_66 rfl ?_
  refine g_istore D0 69 #[.val (.int i1), .val (.int i2), .val (.int rl), .val (.int a1), .val (.int a2), .val (.int us), .val (.int (((XT.ushr i2 (1 : Int32)) &&& (3 : Int32)) % (3 : Int32))), .val (.int (((XT.ushr i2 (3 : Int32)) &&& (255 : Int32)).toUInt32.toUInt16.toUInt32.toInt32)), .val (.int (((XT.ushr i2 (11 : Int32)) &&& (255 : Int32)).toUInt32.toUInt16.toUInt32.toInt32)), .unset, .unset, .unset, .unset] at_67 rfl rfl ?_
  generalize heul : (((XT.ushr i2 (1 : Int32)) &&& (3 : Int32)) % (3 : Int32)) = ul
  have hul : (0 ≤ ul.toInt ∧ ul.toInt ≤ 2) := heul ▸ own_rem3 _
  generalize hea3 : (((XT.ushr i2 (3 : Int32)) &&& (255 : Int32)).toUInt32.toUInt16.toUInt32.toInt32) = a3
  have Ba3 : B8 a3 := hea3 ▸ b8_i2c _
  generalize hea4 : (((XT.ushr i2 (11 : Int32)) &&& (255 : Int32)).toUInt32.toUInt16.toUInt32.toInt32) = a4
  have Ba4 : B8 a4 := hea4 ▸ b8_i2c _
  rcases hus with rfl | rfl
  · show Go p e below _ (s₁.setTop (mkF m 69 #[.val (.int i1), .val (.int i2), .val (.int rl), .val (.int a1), .val (.int a2), .val (.int (0 : Int32)), .val (.int ul), .val (.int a3), .val (.int a4), .unset, .unset, .unset, .unset] []))
    refine g_iloadN D0 70 at_69 rfl rfl ?_
    refine g_iloadN D0 71 at_70 rfl rfl ?_
    refine g_iload D0 73 at_71 rfl rfl ?_
    refine g_callSW D0 76 hEW (hw _ w_0) (hw _ w_1) (hw _ w_2) (hw _ w_3) (by decide) (cStr l Z a0 hw [] rl a1 a2 zc h0 n0 Z0 hEW OLD CS hzc Ba1 Ba2) rfl [(.int rl), (.int a1), (.int a2)] rfl (lenOf pd_21 rfl) rfl 0 (Nat.le_of_eq rfl) (by decide) (by decide) (by decide) (by decide) at_73 rfl ?_
    intro v193 s193 T193 h193 L193 q193 SF193 D193
    obtain ⟨st193, rfl, N193, E193, X193⟩ := q193
    have NF193 := Fr.app (Fr.nil n0) N193
    show Go p e below _ (T193.setTop (mkF m 76 #[.val (.int i1), .val (.int i2), .val (.int rl), .val (.int a1), .val (.int a2), .val (.int (0 : Int32)), .val (.int ul), .val (.int a3), .val (.int a4), .unset, .unset, .unset, .unset] [(.ref st193)]))
    refine g_astore D193 78 #[.val (.int i1), .val (.int i2), .val (.int rl), .val (.int a1), .val (.int a2), .val (.int (0 : Int32)), .val (.int ul), .val (.int a3), .val (.int a4), .val (.ref st193), .unset, .unset, .unset] at_76 rfl rfl rfl ?_
    refine g_iload D193 80 at_78 rfl rfl ?_
    refine g_ifY D193 95 at_80 (by decide) (by decide) (by decide) ?_
    refine g_aconst D193 96 at_95 rfl ?_
    refine g_astore D193 98 #[.val (.int i1), .val (.int i2), .val (.int rl), .val (.int a1), .val (.int a2), .val (.int (0 : Int32)), .val (.int ul), .val (.int a3), .val (.int a4), .val (.ref st193), .val .null, .unset, .unset] at_96 rfl rfl rfl ?_
    refine g_newO D193 101 (hw _ w_37) (hw _ w_38) (hw _ w_39) at_98 (by decide) (by decide) (fun _ E => D193.iv.ext E) rfl ?_
    intro T194 h194 a194 g194 E194 A194 N194 D194
    refine g_dup D194 102 at_101 rfl rfl ?_
    refine g_aload D194 104 at_102 rfl rfl rfl ?_
    refine g_aload D194 106 at_104 rfl rfl rfl ?_
    refine g_callN D194 109 rfl (hw _ w_40) (hw _ w_41) (hw _ w_42) (by decide) ((cRI_n l Z a0 hw [] a194 st193  h194 n0 (Nat.le_trans (Nat.le_trans Z0 E193.1) E194.1) A194 (N194 (Or.inr (hw _ w_50)) (ty := (.object "java/lang/String")) (by decide)) (N194 (Or.inr (hw _ w_52)) (ty := (.object "java/lang/String")) (by decide)) (Nat.le_trans (Nat.le_trans Z0 E193.1) (Nat.le_of_eq g194.symm))).back D194 1 (hw _ w_42) (hw _ w_39) (by decide) (by decide)) rfl [(.ref st193), .null] rfl (lenOf pd_22 rfl) rfl (Nat.le_of_eq rfl) (by decide) (by decide) (fun _ _ _ q => D194.iv.keep (sfS (Safe.exa D194.wm.alike A194 (by decide) (by decide)) sf0) q.2.2.1) at_106 rfl ?_
    intro v195 T195 h195 L195 q195 D195
    obtain ⟨rfl, N195, K195, A195, P195, R195⟩ := q195
    have NF195 := Fr.app NF193 N195
    have Yst193 := (X193.ext (Keep.toExt (((Keep.refl _ []).ext E194).trans K195 (allS (Or.inr (Nat.le_trans (Nat.le_refl _) (Nat.le_of_eq g194.symm))) all0))))
    show Go p e below _ (T195.setTop (mkF m 109 #[.val (.int i1), .val (.int i2), .val (.int rl), .val (.int a1), .val (.int a2), .val (.int (0 : Int32)), .val (.int ul), .val (.int a3), .val (.int a4), .val (.ref st193), .val .null, .unset, .unset] [(.ref a194)]))
    refine g_callVp D195 112 (hw _ w_53) (hw _ w_54) (notFace_of_selects (args := #[]) (mvT D195.wm (hw _ w_56))) (hw _ w_56) (hw _ w_55) (by decide) ((cTo_n l Z a0 hw [] a194 st193 h195 n0 (Nat.le_trans (Nat.le_trans (Nat.le_trans Z0 E193.1) E194.1) K195.1) P195 R195).back D195 0 (hw _ w_57) (hw _ w_39) (by decide) (by decide)) A195 rfl [] rfl (lenOf pd_18 rfl) rfl (Nat.le_of_eq rfl) (by decide) (by decide) at_109 rfl ?_
    intro v196 T196 q196 D196
    subst q196
    show Go p e below _ (T196.setTop (mkF m 112 #[.val (.int i1), .val (.int i2), .val (.int rl), .val (.int a1), .val (.int a2), .val (.int (0 : Int32)), .val (.int ul), .val (.int a3), .val (.int a4), .val (.ref st193), .val .null, .unset, .unset] [(.ref st193)]))
    have XX := Yst193
    have OLD9 := (((OLD.ext E193).ext E194).keep K195 (allS (Nat.le_trans (Nat.le_trans Z0 E193.1) (Nat.le_of_eq g194.symm)) all0))
    have Z9 : n0 ≤ h195.size := (Nat.le_trans (Nat.le_trans (Nat.le_trans Z0 E193.1) E194.1) K195.1)
    refine g_astore D196 114 #[.val (.int i1), .val (.int i2), .val (.int rl), .val (.int a1), .val (.int a2), .val (.int (0 : Int32)), .val (.int ul), .val (.int a3), .val (.int a4), .val (.ref st193), .val .null, .val (.ref st193), .unset] at_112 rfl rfl rfl ?_
    refine g_aload D196 116 at_114 rfl rfl rfl ?_
    refine g_nnY D196 121 at_116 (by decide) (by decide) ?_
    refine g_iload D196 123 at_121 rfl rfl ?_
    refine g_ifY D196 135 at_123 (by decide) (by decide) (by decide) ?_
    refine g_iloadN D196 136 at_135 rfl rfl ?_
    refine g_istore D196 138 #[.val (.int i1), .val (.int i2), .val (.int rl), .val (.int a1), .val (.int a2), .val (.int (0 : Int32)), .val (.int ul), .val (.int a3), .val (.int a4), .val (.ref st193), .val .null, .val (.ref st193), .val (.int rl)] at_136 rfl rfl ?_
    refine g_aload D196 140 at_138 rfl rfl rfl ?_
    refine g_callVp D196 143 (hw _ w_169) (hw _ w_87) (notFace_of_selects (args := #[]) (mvT D196.wm (hw _ w_89))) (hw _ w_89) (hw _ w_88) (by decide) (TS.lenB 0 D196 hw (LS.ts XX) (CS.ext (((OLD.ext E193).ext E194).keep K195 (allS (Nat.le_trans (Nat.le_trans Z0 E193.1) (Nat.le_of_eq g194.symm)) all0)).2) hzc (by decide) (by decide)) XX.exa rfl [] rfl (lenOf pd_7 rfl) rfl (Nat.le_of_eq rfl) (by decide) (by decide) at_140 rfl ?_
    intro v197 T197 q197 D197
    subst q197
    show Go p e below _ (T197.setTop (mkF m 143 #[.val (.int i1), .val (.int i2), .val (.int rl), .val (.int a1), .val (.int a2), .val (.int (0 : Int32)), .val (.int ul), .val (.int a3), .val (.int a4), .val (.ref st193), .val .null, .val (.ref st193), .val (.int rl)] [(.int (Int32.ofNat (own_str rl a1 a2).length))]))
    refine g_iload D197 145 at_143 rfl rfl ?_
    refine g_icmpY D197 150 at_145 (teq (own_l0 hrl)).1 (by decide) (by decide) ?_
    refine g_aload D197 152 at_150 rfl rfl rfl ?_
    refine g_iconst D197 153 (0 : Int32) at_152 rfl rfl ?_
    refine g_iload D197 155 at_153 rfl rfl ?_
    refine g_iloadN D197 156 at_155 rfl rfl ?_
    refine g_iloadN D197 157 at_156 rfl rfl ?_
    refine g_iload D197 159 at_157 rfl rfl ?_
    refine g_iload D197 161 at_159 rfl rfl ?_
    refine g_iload D197 163 at_161 rfl rfl ?_
    refine g_callSp D197 166 (hw _ w_170) (hw _ w_171) (hw _ w_2) (hw _ w_172) (by decide) ((cAt l Z a0 hw [] st193 (0 : Int32) rl rl a1 a2 a3 a4 zc fm (own_str rl a1 a2) 0 h195 n0 Z9 OLD9 CS hzc SFm rfm XX (own_h0_0 hrl) Ba1 Ba2 Ba3 Ba4).back D197 0 (hw _ w_172) (hw _ w_2) (by decide) (by decide)) rfl [(.ref st193), (.int (0 : Int32)), (.int rl), (.int rl), (.int a1), (.int a2), (.int a3), (.int a4)] rfl (lenOf pd_23 rfl) rfl (Nat.le_of_eq rfl) (by decide) (by decide) at_163 rfl ?_
    intro v198 T198 q198 D198
    subst q198
    show Go p e below _ (T198.setTop (mkF m 166 #[.val (.int i1), .val (.int i2), .val (.int rl), .val (.int a1), .val (.int a2), .val (.int (0 : Int32)), .val (.int ul), .val (.int a3), .val (.int a4), .val (.ref st193), .val .null, .val (.ref st193), .val (.int rl)] [(.int (1 : Int32))]))
    refine g_ifN D198 169 at_166 (by decide) rfl ?_
    refine g_aload D198 171 at_169 rfl rfl rfl ?_
    refine g_iconst D198 172 (1 : Int32) at_171 rfl rfl ?_
    refine g_iload D198 174 at_172 rfl rfl ?_
    refine g_iloadN D198 175 at_174 rfl rfl ?_
    refine g_iloadN D198 176 at_175 rfl rfl ?_
    refine g_iload D198 178 at_176 rfl rfl ?_
    refine g_iload D198 180 at_178 rfl rfl ?_
    refine g_iload D198 182 at_180 rfl rfl ?_
    refine g_callSp D198 185 (hw _ w_170) (hw _ w_171) (hw _ w_2) (hw _ w_172) (by decide) ((cAt l Z a0 hw [] st193 (1 : Int32) rl rl a1 a2 a3 a4 zc fm (own_str rl a1 a2) 1 h195 n0 Z9 OLD9 CS hzc SFm rfm XX (own_h0_1 hrl) Ba1 Ba2 Ba3 Ba4).back D198 0 (hw _ w_172) (hw _ w_2) (by decide) (by decide)) rfl [(.ref st193), (.int (1 : Int32)), (.int rl), (.int rl), (.int a1), (.int a2), (.int a3), (.int a4)] rfl (lenOf pd_23 rfl) rfl (Nat.le_of_eq rfl) (by decide) (by decide) at_182 rfl ?_
    intro v199 T199 q199 D199
    subst q199
    show Go p e below _ (T199.setTop (mkF m 185 #[.val (.int i1), .val (.int i2), .val (.int rl), .val (.int a1), .val (.int a2), .val (.int (0 : Int32)), .val (.int ul), .val (.int a3), .val (.int a4), .val (.ref st193), .val .null, .val (.ref st193), .val (.int rl)] [(.int (1 : Int32))]))
    refine g_ifN D199 188 at_185 (by decide) rfl ?_
    refine g_aload D199 190 at_188 rfl rfl rfl ?_
    refine g_iconst D199 191 (2 : Int32) at_190 rfl rfl ?_
    refine g_iload D199 193 at_191 rfl rfl ?_
    refine g_iloadN D199 194 at_193 rfl rfl ?_
    refine g_iloadN D199 195 at_194 rfl rfl ?_
    refine g_iload D199 197 at_195 rfl rfl ?_
    refine g_iload D199 199 at_197 rfl rfl ?_
    refine g_iload D199 201 at_199 rfl rfl ?_
    refine g_callSp D199 204 (hw _ w_170) (hw _ w_171) (hw _ w_2) (hw _ w_172) (by decide) ((cAt l Z a0 hw [] st193 (2 : Int32) rl rl a1 a2 a3 a4 zc fm (own_str rl a1 a2) 2 h195 n0 Z9 OLD9 CS hzc SFm rfm XX (own_h0_2 hrl) Ba1 Ba2 Ba3 Ba4).back D199 0 (hw _ w_172) (hw _ w_2) (by decide) (by decide)) rfl [(.ref st193), (.int (2 : Int32)), (.int rl), (.int rl), (.int a1), (.int a2), (.int a3), (.int a4)] rfl (lenOf pd_23 rfl) rfl (Nat.le_of_eq rfl) (by decide) (by decide) at_201 rfl ?_
    intro v200 T200 q200 D200
    subst q200
    show Go p e below _ (T200.setTop (mkF m 204 #[.val (.int i1), .val (.int i2), .val (.int rl), .val (.int a1), .val (.int a2), .val (.int (0 : Int32)), .val (.int ul), .val (.int a3), .val (.int a4), .val (.ref st193), .val .null, .val (.ref st193), .val (.int rl)] [(.int (1 : Int32))]))
    refine g_ifN D200 207 at_204 (by decide) rfl ?_
    refine g_aload D200 209 at_207 rfl rfl rfl ?_
    refine g_iconst D200 210 (3 : Int32) at_209 rfl rfl ?_
    refine g_iload D200 212 at_210 rfl rfl ?_
    refine g_iloadN D200 213 at_212 rfl rfl ?_
    refine g_iloadN D200 214 at_213 rfl rfl ?_
    refine g_iload D200 216 at_214 rfl rfl ?_
    refine g_iload D200 218 at_216 rfl rfl ?_
    refine g_iload D200 220 at_218 rfl rfl ?_
    refine g_callSp D200 223 (hw _ w_170) (hw _ w_171) (hw _ w_2) (hw _ w_172) (by decide) ((cAt l Z a0 hw [] st193 (3 : Int32) rl rl a1 a2 a3 a4 zc fm (own_str rl a1 a2) 3 h195 n0 Z9 OLD9 CS hzc SFm rfm XX (own_h0_3 hrl) Ba1 Ba2 Ba3 Ba4).back D200 0 (hw _ w_172) (hw _ w_2) (by decide) (by decide)) rfl [(.ref st193), (.int (3 : Int32)), (.int rl), (.int rl), (.int a1), (.int a2), (.int a3), (.int a4)] rfl (lenOf pd_23 rfl) rfl (Nat.le_of_eq rfl) (by decide) (by decide) at_220 rfl ?_
    intro v201 T201 q201 D201
    subst q201
    show Go p e below _ (T201.setTop (mkF m 223 #[.val (.int i1), .val (.int i2), .val (.int rl), .val (.int a1), .val (.int a2), .val (.int (0 : Int32)), .val (.int ul), .val (.int a3), .val (.int a4), .val (.ref st193), .val .null, .val (.ref st193), .val (.int rl)] [(.int (1 : Int32))]))
    refine g_ifN D201 226 at_223 (by decide) rfl ?_
    refine g_aload D201 228 at_226 rfl rfl rfl ?_
    refine g_iconst D201 229 (4 : Int32) at_228 rfl rfl ?_
    refine g_iload D201 231 at_229 rfl rfl ?_
    refine g_iloadN D201 232 at_231 rfl rfl ?_
    refine g_iloadN D201 233 at_232 rfl rfl ?_
    refine g_iload D201 235 at_233 rfl rfl ?_
    refine g_iload D201 237 at_235 rfl rfl ?_
    refine g_iload D201 239 at_237 rfl rfl ?_
    refine g_callSp D201 242 (hw _ w_170) (hw _ w_171) (hw _ w_2) (hw _ w_172) (by decide) ((cAt l Z a0 hw [] st193 (4 : Int32) rl rl a1 a2 a3 a4 zc fm (own_str rl a1 a2) 4 h195 n0 Z9 OLD9 CS hzc SFm rfm XX (own_h0_4 hrl) Ba1 Ba2 Ba3 Ba4).back D201 0 (hw _ w_172) (hw _ w_2) (by decide) (by decide)) rfl [(.ref st193), (.int (4 : Int32)), (.int rl), (.int rl), (.int a1), (.int a2), (.int a3), (.int a4)] rfl (lenOf pd_23 rfl) rfl (Nat.le_of_eq rfl) (by decide) (by decide) at_239 rfl ?_
    intro v202 T202 q202 D202
    subst q202
    show Go p e below _ (T202.setTop (mkF m 242 #[.val (.int i1), .val (.int i2), .val (.int rl), .val (.int a1), .val (.int a2), .val (.int (0 : Int32)), .val (.int ul), .val (.int a3), .val (.int a4), .val (.ref st193), .val .null, .val (.ref st193), .val (.int rl)] [(.int (1 : Int32))]))
    refine g_ifN D202 245 at_242 (by decide) rfl ?_
    refine g_aload D202 247 at_245 rfl rfl rfl ?_
    refine g_iconst D202 248 (5 : Int32) at_247 rfl rfl ?_
    refine g_iload D202 250 at_248 rfl rfl ?_
    refine g_iloadN D202 251 at_250 rfl rfl ?_
    refine g_iloadN D202 252 at_251 rfl rfl ?_
    refine g_iload D202 254 at_252 rfl rfl ?_
    refine g_iload D202 256 at_254 rfl rfl ?_
    refine g_iload D202 258 at_256 rfl rfl ?_
    refine g_callSp D202 261 (hw _ w_170) (hw _ w_171) (hw _ w_2) (hw _ w_172) (by decide) ((cAt l Z a0 hw [] st193 (5 : Int32) rl rl a1 a2 a3 a4 zc fm (own_str rl a1 a2) 5 h195 n0 Z9 OLD9 CS hzc SFm rfm XX (own_h0_5 hrl) Ba1 Ba2 Ba3 Ba4).back D202 0 (hw _ w_172) (hw _ w_2) (by decide) (by decide)) rfl [(.ref st193), (.int (5 : Int32)), (.int rl), (.int rl), (.int a1), (.int a2), (.int a3), (.int a4)] rfl (lenOf pd_23 rfl) rfl (Nat.le_of_eq rfl) (by decide) (by decide) at_258 rfl ?_
    intro v203 T203 q203 D203
    subst q203
    show Go p e below _ (T203.setTop (mkF m 261 #[.val (.int i1), .val (.int i2), .val (.int rl), .val (.int a1), .val (.int a2), .val (.int (0 : Int32)), .val (.int ul), .val (.int a3), .val (.int a4), .val (.ref st193), .val .null, .val (.ref st193), .val (.int rl)] [(.int (1 : Int32))]))
    refine g_ifN D203 264 at_261 (by decide) rfl ?_
    refine g_aload D203 266 at_264 rfl rfl rfl ?_
    refine g_bipush D203 268 (6 : Int32) at_266 rfl rfl ?_
    refine g_iload D203 270 at_268 rfl rfl ?_
    refine g_iloadN D203 271 at_270 rfl rfl ?_
    refine g_iloadN D203 272 at_271 rfl rfl ?_
    refine g_iload D203 274 at_272 rfl rfl ?_
    refine g_iload D203 276 at_274 rfl rfl ?_
    refine g_iload D203 278 at_276 rfl rfl ?_
    refine g_callSp D203 281 (hw _ w_170) (hw _ w_171) (hw _ w_2) (hw _ w_172) (by decide) ((cAt l Z a0 hw [] st193 (6 : Int32) rl rl a1 a2 a3 a4 zc fm (own_str rl a1 a2) 6 h195 n0 Z9 OLD9 CS hzc SFm rfm XX (own_h0_6 hrl) Ba1 Ba2 Ba3 Ba4).back D203 0 (hw _ w_172) (hw _ w_2) (by decide) (by decide)) rfl [(.ref st193), (.int (6 : Int32)), (.int rl), (.int rl), (.int a1), (.int a2), (.int a3), (.int a4)] rfl (lenOf pd_23 rfl) rfl (Nat.le_of_eq rfl) (by decide) (by decide) at_278 rfl ?_
    intro v204 T204 q204 D204
    subst q204
    show Go p e below _ (T204.setTop (mkF m 281 #[.val (.int i1), .val (.int i2), .val (.int rl), .val (.int a1), .val (.int a2), .val (.int (0 : Int32)), .val (.int ul), .val (.int a3), .val (.int a4), .val (.ref st193), .val .null, .val (.ref st193), .val (.int rl)] [(.int (1 : Int32))]))
    refine g_ifN D204 284 at_281 (by decide) rfl ?_
    refine g_aload D204 286 at_284 rfl rfl rfl ?_
    refine g_bipush D204 288 (7 : Int32) at_286 rfl rfl ?_
    refine g_iload D204 290 at_288 rfl rfl ?_
    refine g_iloadN D204 291 at_290 rfl rfl ?_
    refine g_iloadN D204 292 at_291 rfl rfl ?_
    refine g_iload D204 294 at_292 rfl rfl ?_
    refine g_iload D204 296 at_294 rfl rfl ?_
    refine g_iload D204 298 at_296 rfl rfl ?_
    refine g_callSp D204 301 (hw _ w_170) (hw _ w_171) (hw _ w_2) (hw _ w_172) (by decide) ((cAt l Z a0 hw [] st193 (7 : Int32) rl rl a1 a2 a3 a4 zc fm (own_str rl a1 a2) 7 h195 n0 Z9 OLD9 CS hzc SFm rfm XX (own_h0_7 hrl) Ba1 Ba2 Ba3 Ba4).back D204 0 (hw _ w_172) (hw _ w_2) (by decide) (by decide)) rfl [(.ref st193), (.int (7 : Int32)), (.int rl), (.int rl), (.int a1), (.int a2), (.int a3), (.int a4)] rfl (lenOf pd_23 rfl) rfl (Nat.le_of_eq rfl) (by decide) (by decide) at_298 rfl ?_
    intro v205 T205 q205 D205
    subst q205
    show Go p e below _ (T205.setTop (mkF m 301 #[.val (.int i1), .val (.int i2), .val (.int rl), .val (.int a1), .val (.int a2), .val (.int (0 : Int32)), .val (.int ul), .val (.int a3), .val (.int a4), .val (.ref st193), .val .null, .val (.ref st193), .val (.int rl)] [(.int (1 : Int32))]))
    refine g_ifN D205 304 at_301 (by decide) rfl ?_
    refine g_iconst D205 305 (1 : Int32) at_304 rfl rfl ?_
    refine g_goto D205 309 at_305 (by decide) (by decide) ?_
    exact r_Nw D205 hEW hret (by simp) hlk at_309 ⟨own_r1, NF195⟩ (by decide) (by decide)
  · show Go p e below _ (s₁.setTop (mkF m 69 #[.val (.int i1), .val (.int i2), .val (.int rl), .val (.int a1), .val (.int a2), .val (.int (1 : Int32)), .val (.int ul), .val (.int a3), .val (.int a4), .unset, .unset, .unset, .unset] []))
    refine g_iloadN D0 70 at_69 rfl rfl ?_
    refine g_iloadN D0 71 at_70 rfl rfl ?_
    refine g_iload D0 73 at_71 rfl rfl ?_
    refine g_callSW D0 76 hEW (hw _ w_0) (hw _ w_1) (hw _ w_2) (hw _ w_3) (by decide) (cStr l Z a0 hw [] rl a1 a2 zc h0 n0 Z0 hEW OLD CS hzc Ba1 Ba2) rfl [(.int rl), (.int a1), (.int a2)] rfl (lenOf pd_21 rfl) rfl 0 (Nat.le_of_eq rfl) (by decide) (by decide) (by decide) (by decide) at_73 rfl ?_
    intro v206 s206 T206 h206 L206 q206 SF206 D206
    obtain ⟨st206, rfl, N206, E206, X206⟩ := q206
    have NF206 := Fr.app (Fr.nil n0) N206
    show Go p e below _ (T206.setTop (mkF m 76 #[.val (.int i1), .val (.int i2), .val (.int rl), .val (.int a1), .val (.int a2), .val (.int (1 : Int32)), .val (.int ul), .val (.int a3), .val (.int a4), .unset, .unset, .unset, .unset] [(.ref st206)]))
    refine g_astore D206 78 #[.val (.int i1), .val (.int i2), .val (.int rl), .val (.int a1), .val (.int a2), .val (.int (1 : Int32)), .val (.int ul), .val (.int a3), .val (.int a4), .val (.ref st206), .unset, .unset, .unset] at_76 rfl rfl rfl ?_
    refine g_iload D206 80 at_78 rfl rfl ?_
    refine g_ifN D206 83 at_80 (by decide) rfl ?_
    refine g_iload D206 85 at_83 rfl rfl ?_
    refine g_iload D206 87 at_85 rfl rfl ?_
    refine g_iload D206 89 at_87 rfl rfl ?_
    refine g_callSW D206 92 hEW (hw _ w_0) (hw _ w_1) (hw _ w_2) (hw _ w_3) (by decide) (cStr l Z a0 hw [] ul a3 a4 zc h206 n0 (Nat.le_trans Z0 E206.1) hEW (OLD.ext E206) CS hzc Ba3 Ba4) rfl [(.int ul), (.int a3), (.int a4)] rfl (lenOf pd_21 rfl) rfl 0 (Nat.le_of_eq rfl) (by decide) (by decide) (by decide) (by decide) at_89 rfl ?_
    intro v207 s207 T207 h207 L207 q207 SF207 D207
    obtain ⟨st207, rfl, N207, E207, X207⟩ := q207
    have NF207 := Fr.app NF206 N207
    show Go p e below _ (T207.setTop (mkF m 92 #[.val (.int i1), .val (.int i2), .val (.int rl), .val (.int a1), .val (.int a2), .val (.int (1 : Int32)), .val (.int ul), .val (.int a3), .val (.int a4), .val (.ref st206), .unset, .unset, .unset] [(.ref st207)]))
    refine g_goto D207 96 at_92 (by decide) (by decide) ?_
    refine g_astore D207 98 #[.val (.int i1), .val (.int i2), .val (.int rl), .val (.int a1), .val (.int a2), .val (.int (1 : Int32)), .val (.int ul), .val (.int a3), .val (.int a4), .val (.ref st206), .val (.ref st207), .unset, .unset] at_96 rfl rfl rfl ?_
    refine g_newO D207 101 (hw _ w_37) (hw _ w_38) (hw _ w_39) at_98 (by decide) (by decide) (fun _ E => D207.iv.ext E) rfl ?_
    intro T208 h208 a208 g208 E208 A208 N208 D208
    refine g_dup D208 102 at_101 rfl rfl ?_
    refine g_aload D208 104 at_102 rfl rfl rfl ?_
    refine g_aload D208 106 at_104 rfl rfl rfl ?_
    refine g_callN D208 109 rfl (hw _ w_40) (hw _ w_41) (hw _ w_42) (by decide) ((cRI_r l Z a0 hw [] a208 st206 st207 h208 n0 (Nat.le_trans (Nat.le_trans (Nat.le_trans Z0 E206.1) E207.1) E208.1) A208 (N208 (Or.inr (hw _ w_50)) (ty := (.object "java/lang/String")) (by decide)) (N208 (Or.inr (hw _ w_52)) (ty := (.object "java/lang/String")) (by decide)) (Nat.le_trans (Nat.le_trans (Nat.le_trans Z0 E206.1) E207.1) (Nat.le_of_eq g208.symm))).back D208 1 (hw _ w_42) (hw _ w_39) (by decide) (by decide)) rfl [(.ref st206), (.ref st207)] rfl (lenOf pd_22 rfl) rfl (Nat.le_of_eq rfl) (by decide) (by decide) (fun _ _ _ q => D208.iv.keep (sfS (Safe.exa D208.wm.alike A208 (by decide) (by decide)) sf0) q.2.2.1) at_106 rfl ?_
    intro v209 T209 h209 L209 q209 D209
    obtain ⟨rfl, N209, K209, A209, P209, R209⟩ := q209
    have NF209 := Fr.app NF207 N209
    have Yst206 := (X206.ext (Keep.toExt ((((Keep.refl _ []).ext E207).ext E208).trans K209 (allS (Or.inr (Nat.le_trans (Nat.le_trans (Nat.le_refl _) E207.1) (Nat.le_of_eq g208.symm))) all0))))
    have Yst207 := (X207.ext (Keep.toExt (((Keep.refl _ []).ext E208).trans K209 (allS (Or.inr (Nat.le_trans (Nat.le_refl _) (Nat.le_of_eq g208.symm))) all0))))
    show Go p e below _ (T209.setTop (mkF m 109 #[.val (.int i1), .val (.int i2), .val (.int rl), .val (.int a1), .val (.int a2), .val (.int (1 : Int32)), .val (.int ul), .val (.int a3), .val (.int a4), .val (.ref st206), .val (.ref st207), .unset, .unset] [(.ref a208)]))
    refine g_callVW D209 112 hEW (hw _ w_53) (hw _ w_54) (notFace_of_selects (args := #[]) (mvT D209.wm (hw _ w_56))) (hw _ w_56) (hw _ w_55) (hw _ w_39) (hw _ w_57) (by decide) (cTo_r l Z a0 hw [] a208 st206 st207 (own_str rl a1 a2) (own_str ul a3 a4) zc h209 n0 (Nat.le_trans (Nat.le_trans (Nat.le_trans (Nat.le_trans Z0 E206.1) E207.1) E208.1) K209.1) hEW ((((OLD.ext E206).ext E207).ext E208).keep K209 (allS (Nat.le_trans (Nat.le_trans (Nat.le_trans Z0 E206.1) E207.1) (Nat.le_of_eq g208.symm)) all0)) CS hzc A209 P209 R209 Yst206 Yst207 own_sl own_sl) A209 rfl [] rfl (lenOf pd_18 rfl) rfl 0 (Nat.le_of_eq rfl) (by decide) (by decide) (by decide) (by decide) at_109 rfl ?_
    intro v210 s210 T210 h210 L210 q210 SF210 D210
    obtain ⟨xx, rfl, N210, E210, XX⟩ := q210
    have NF210 := Fr.app NF209 N210
    show Go p e below _ (T210.setTop (mkF m 112 #[.val (.int i1), .val (.int i2), .val (.int rl), .val (.int a1), .val (.int a2), .val (.int (1 : Int32)), .val (.int ul), .val (.int a3), .val (.int a4), .val (.ref st206), .val (.ref st207), .unset, .unset] [(.ref xx)]))
    have OLD9 := (((((OLD.ext E206).ext E207).ext E208).keep K209 (allS (Nat.le_trans (Nat.le_trans (Nat.le_trans Z0 E206.1) E207.1) (Nat.le_of_eq g208.symm)) all0)).ext E210)
    have Z9 : n0 ≤ h210.size := (Nat.le_trans (Nat.le_trans (Nat.le_trans (Nat.le_trans (Nat.le_trans Z0 E206.1) E207.1) E208.1) K209.1) E210.1)
    refine g_astore D210 114 #[.val (.int i1), .val (.int i2), .val (.int rl), .val (.int a1), .val (.int a2), .val (.int (1 : Int32)), .val (.int ul), .val (.int a3), .val (.int a4), .val (.ref st206), .val (.ref st207), .val (.ref xx), .unset] at_112 rfl rfl rfl ?_
    refine g_aload D210 116 at_114 rfl rfl rfl ?_
    refine g_nnY D210 121 at_116 (by decide) (by decide) ?_
    refine g_iload D210 123 at_121 rfl rfl ?_
    refine g_ifN D210 126 at_123 (by decide) rfl ?_
    refine g_iloadN D210 127 at_126 rfl rfl ?_
    refine g_iconst D210 128 (4 : Int32) at_127 rfl rfl ?_
    refine g_iadd D210 129 at_128 rfl ?_
    refine g_iload D210 131 at_129 rfl rfl ?_
    refine g_iadd D210 132 at_131 rfl ?_
    refine g_goto D210 136 at_132 (by decide) (by decide) ?_
    refine g_istore D210 138 #[.val (.int i1), .val (.int i2), .val (.int rl), .val (.int a1), .val (.int a2), .val (.int (1 : Int32)), .val (.int ul), .val (.int a3), .val (.int a4), .val (.ref st206), .val (.ref st207), .val (.ref xx), .val (.int ((rl + (4 : Int32)) + ul))] at_136 rfl rfl ?_
    refine g_aload D210 140 at_138 rfl rfl rfl ?_
    refine g_callVp D210 143 (hw _ w_169) (hw _ w_87) (notFace_of_selects (args := #[]) (mvT D210.wm (hw _ w_89))) (hw _ w_89) (hw _ w_88) (by decide) (TS.lenB 0 D210 hw (LS.ts XX) (CS.ext (((((OLD.ext E206).ext E207).ext E208).keep K209 (allS (Nat.le_trans (Nat.le_trans (Nat.le_trans Z0 E206.1) E207.1) (Nat.le_of_eq g208.symm)) all0)).ext E210).2) hzc (by decide) (by decide)) XX.exa rfl [] rfl (lenOf pd_7 rfl) rfl (Nat.le_of_eq rfl) (by decide) (by decide) at_140 rfl ?_
    intro v211 T211 q211 D211
    subst q211
    show Go p e below _ (T211.setTop (mkF m 143 #[.val (.int i1), .val (.int i2), .val (.int rl), .val (.int a1), .val (.int a2), .val (.int (1 : Int32)), .val (.int ul), .val (.int a3), .val (.int a4), .val (.ref st206), .val (.ref st207), .val (.ref xx), .val (.int ((rl + (4 : Int32)) + ul))] [(.int (Int32.ofNat (([] ++ own_str rl a1 a2) ++ own_as ++ own_str ul a3 a4).length))]))
    refine g_iload D211 145 at_143 rfl rfl ?_
    refine g_icmpY D211 150 at_145 (teq (own_l1 hrl hul)).1 (by decide) (by decide) ?_
    refine g_aload D211 152 at_150 rfl rfl rfl ?_
    refine g_iconst D211 153 (0 : Int32) at_152 rfl rfl ?_
    refine g_iload D211 155 at_153 rfl rfl ?_
    refine g_iloadN D211 156 at_155 rfl rfl ?_
    refine g_iloadN D211 157 at_156 rfl rfl ?_
    refine g_iload D211 159 at_157 rfl rfl ?_
    refine g_iload D211 161 at_159 rfl rfl ?_
    refine g_iload D211 163 at_161 rfl rfl ?_
    refine g_callSp D211 166 (hw _ w_170) (hw _ w_171) (hw _ w_2) (hw _ w_172) (by decide) ((cAt l Z a0 hw [] xx (0 : Int32) ((rl + (4 : Int32)) + ul) rl a1 a2 a3 a4 zc fm (([] ++ own_str rl a1 a2) ++ own_as ++ own_str ul a3 a4) 0 h210 n0 Z9 OLD9 CS hzc SFm rfm XX (own_h1_0 hrl hul) Ba1 Ba2 Ba3 Ba4).back D211 0 (hw _ w_172) (hw _ w_2) (by decide) (by decide)) rfl [(.ref xx), (.int (0 : Int32)), (.int ((rl + (4 : Int32)) + ul)), (.int rl), (.int a1), (.int a2), (.int a3), (.int a4)] rfl (lenOf pd_23 rfl) rfl (Nat.le_of_eq rfl) (by decide) (by decide) at_163 rfl ?_
    intro v212 T212 q212 D212
    subst q212
    show Go p e below _ (T212.setTop (mkF m 166 #[.val (.int i1), .val (.int i2), .val (.int rl), .val (.int a1), .val (.int a2), .val (.int (1 : Int32)), .val (.int ul), .val (.int a3), .val (.int a4), .val (.ref st206), .val (.ref st207), .val (.ref xx), .val (.int ((rl + (4 : Int32)) + ul))] [(.int (1 : Int32))]))
    refine g_ifN D212 169 at_166 (by decide) rfl ?_
    refine g_aload D212 171 at_169 rfl rfl rfl ?_
    refine g_iconst D212 172 (1 : Int32) at_171 rfl rfl ?_
    refine g_iload D212 174 at_172 rfl rfl ?_
    refine g_iloadN D212 175 at_174 rfl rfl ?_
    refine g_iloadN D212 176 at_175 rfl rfl ?_
    refine g_iload D212 178 at_176 rfl rfl ?_
    refine g_iload D212 180 at_178 rfl rfl ?_
    refine g_iload D212 182 at_180 rfl rfl ?_
    refine g_callSp D212 185 (hw _ w_170) (hw _ w_171) (hw _ w_2) (hw _ w_172) (by decide) ((cAt l Z a0 hw [] xx (1 : Int32) ((rl + (4 : Int32)) + ul) rl a1 a2 a3 a4 zc fm (([] ++ own_str rl a1 a2) ++ own_as ++ own_str ul a3 a4) 1 h210 n0 Z9 OLD9 CS hzc SFm rfm XX (own_h1_1 hrl hul) Ba1 Ba2 Ba3 Ba4).back D212 0 (hw _ w_172) (hw _ w_2) (by decide) (by decide)) rfl [(.ref xx), (.int (1 : Int32)), (.int ((rl + (4 : Int32)) + ul)), (.int rl), (.int a1), (.int a2), (.int a3), (.int a4)] rfl (lenOf pd_23 rfl) rfl (Nat.le_of_eq rfl) (by decide) (by decide) at_182 rfl ?_
    intro v213 T213 q213 D213
    subst q213
    show Go p e below _ (T213.setTop (mkF m 185 #[.val (.int i1), .val (.int i2), .val (.int rl), .val (.int a1), .val (.int a2), .val (.int (1 : Int32)), .val (.int ul), .val (.int a3), .val (.int a4), .val (.ref st206), .val (.ref st207), .val (.ref xx), .val (.int ((rl + (4 : Int32)) + ul))] [(.int (1 : Int32))]))
    refine g_ifN D213 188 at_185 (by decide) rfl ?_
    refine g_aload D213 190 at_188 rfl rfl rfl ?_
    refine g_iconst D213 191 (2 : Int32) at_190 rfl rfl ?_
    refine g_iload D213 193 at_191 rfl rfl ?_
    refine g_iloadN D213 194 at_193 rfl rfl ?_
    refine g_iloadN D213 195 at_194 rfl rfl ?_
    refine g_iload D213 197 at_195 rfl rfl ?_
    refine g_iload D213 199 at_197 rfl rfl ?_
    refine g_iload D213 201 at_199 rfl rfl ?_
    refine g_callSp D213 204 (hw _ w_170) (hw _ w_171) (hw _ w_2) (hw _ w_172) (by decide) ((cAt l Z a0 hw [] xx (2 : Int32) ((rl + (4 : Int32)) + ul) rl a1 a2 a3 a4 zc fm (([] ++ own_str rl a1 a2) ++ own_as ++ own_str ul a3 a4) 2 h210 n0 Z9 OLD9 CS hzc SFm rfm XX (own_h1_2 hrl hul) Ba1 Ba2 Ba3 Ba4).back D213 0 (hw _ w_172) (hw _ w_2) (by decide) (by decide)) rfl [(.ref xx), (.int (2 : Int32)), (.int ((rl + (4 : Int32)) + ul)), (.int rl), (.int a1), (.int a2), (.int a3), (.int a4)] rfl (lenOf pd_23 rfl) rfl (Nat.le_of_eq rfl) (by decide) (by decide) at_201 rfl ?_
    intro v214 T214 q214 D214
    subst q214
    show Go p e below _ (T214.setTop (mkF m 204 #[.val (.int i1), .val (.int i2), .val (.int rl), .val (.int a1), .val (.int a2), .val (.int (1 : Int32)), .val (.int ul), .val (.int a3), .val (.int a4), .val (.ref st206), .val (.ref st207), .val (.ref xx), .val (.int ((rl + (4 : Int32)) + ul))] [(.int (1 : Int32))]))
    refine g_ifN D214 207 at_204 (by decide) rfl ?_
    refine g_aload D214 209 at_207 rfl rfl rfl ?_
    refine g_iconst D214 210 (3 : Int32) at_209 rfl rfl ?_
    refine g_iload D214 212 at_210 rfl rfl ?_
    refine g_iloadN D214 213 at_212 rfl rfl ?_
    refine g_iloadN D214 214 at_213 rfl rfl ?_
    refine g_iload D214 216 at_214 rfl rfl ?_
    refine g_iload D214 218 at_216 rfl rfl ?_
    refine g_iload D214 220 at_218 rfl rfl ?_
    refine g_callSp D214 223 (hw _ w_170) (hw _ w_171) (hw _ w_2) (hw _ w_172) (by decide) ((cAt l Z a0 hw [] xx (3 : Int32) ((rl + (4 : Int32)) + ul) rl a1 a2 a3 a4 zc fm (([] ++ own_str rl a1 a2) ++ own_as ++ own_str ul a3 a4) 3 h210 n0 Z9 OLD9 CS hzc SFm rfm XX (own_h1_3 hrl hul) Ba1 Ba2 Ba3 Ba4).back D214 0 (hw _ w_172) (hw _ w_2) (by decide) (by decide)) rfl [(.ref xx), (.int (3 : Int32)), (.int ((rl + (4 : Int32)) + ul)), (.int rl), (.int a1), (.int a2), (.int a3), (.int a4)] rfl (lenOf pd_23 rfl) rfl (Nat.le_of_eq rfl) (by decide) (by decide) at_220 rfl ?_
    intro v215 T215 q215 D215
    subst q215
    show Go p e below _ (T215.setTop (mkF m 223 #[.val (.int i1), .val (.int i2), .val (.int rl), .val (.int a1), .val (.int a2), .val (.int (1 : Int32)), .val (.int ul), .val (.int a3), .val (.int a4), .val (.ref st206), .val (.ref st207), .val (.ref xx), .val (.int ((rl + (4 : Int32)) + ul))] [(.int (1 : Int32))]))
    refine g_ifN D215 226 at_223 (by decide) rfl ?_
    refine g_aload D215 228 at_226 rfl rfl rfl ?_
    refine g_iconst D215 229 (4 : Int32) at_228 rfl rfl ?_
    refine g_iload D215 231 at_229 rfl rfl ?_
    refine g_iloadN D215 232 at_231 rfl rfl ?_
    refine g_iloadN D215 233 at_232 rfl rfl ?_
    refine g_iload D215 235 at_233 rfl rfl ?_
    refine g_iload D215 237 at_235 rfl rfl ?_
    refine g_iload D215 239 at_237 rfl rfl ?_
    refine g_callSp D215 242 (hw _ w_170) (hw _ w_171) (hw _ w_2) (hw _ w_172) (by decide) ((cAt l Z a0 hw [] xx (4 : Int32) ((rl + (4 : Int32)) + ul) rl a1 a2 a3 a4 zc fm (([] ++ own_str rl a1 a2) ++ own_as ++ own_str ul a3 a4) 4 h210 n0 Z9 OLD9 CS hzc SFm rfm XX (own_h1_4 hrl hul) Ba1 Ba2 Ba3 Ba4).back D215 0 (hw _ w_172) (hw _ w_2) (by decide) (by decide)) rfl [(.ref xx), (.int (4 : Int32)), (.int ((rl + (4 : Int32)) + ul)), (.int rl), (.int a1), (.int a2), (.int a3), (.int a4)] rfl (lenOf pd_23 rfl) rfl (Nat.le_of_eq rfl) (by decide) (by decide) at_239 rfl ?_
    intro v216 T216 q216 D216
    subst q216
    show Go p e below _ (T216.setTop (mkF m 242 #[.val (.int i1), .val (.int i2), .val (.int rl), .val (.int a1), .val (.int a2), .val (.int (1 : Int32)), .val (.int ul), .val (.int a3), .val (.int a4), .val (.ref st206), .val (.ref st207), .val (.ref xx), .val (.int ((rl + (4 : Int32)) + ul))] [(.int (1 : Int32))]))
    refine g_ifN D216 245 at_242 (by decide) rfl ?_
    refine g_aload D216 247 at_245 rfl rfl rfl ?_
    refine g_iconst D216 248 (5 : Int32) at_247 rfl rfl ?_
    refine g_iload D216 250 at_248 rfl rfl ?_
    refine g_iloadN D216 251 at_250 rfl rfl ?_
    refine g_iloadN D216 252 at_251 rfl rfl ?_
    refine g_iload D216 254 at_252 rfl rfl ?_
    refine g_iload D216 256 at_254 rfl rfl ?_
    refine g_iload D216 258 at_256 rfl rfl ?_
    refine g_callSp D216 261 (hw _ w_170) (hw _ w_171) (hw _ w_2) (hw _ w_172) (by decide) ((cAt l Z a0 hw [] xx (5 : Int32) ((rl + (4 : Int32)) + ul) rl a1 a2 a3 a4 zc fm (([] ++ own_str rl a1 a2) ++ own_as ++ own_str ul a3 a4) 5 h210 n0 Z9 OLD9 CS hzc SFm rfm XX (own_h1_5 hrl hul) Ba1 Ba2 Ba3 Ba4).back D216 0 (hw _ w_172) (hw _ w_2) (by decide) (by decide)) rfl [(.ref xx), (.int (5 : Int32)), (.int ((rl + (4 : Int32)) + ul)), (.int rl), (.int a1), (.int a2), (.int a3), (.int a4)] rfl (lenOf pd_23 rfl) rfl (Nat.le_of_eq rfl) (by decide) (by decide) at_258 rfl ?_
    intro v217 T217 q217 D217
    subst q217
    show Go p e below _ (T217.setTop (mkF m 261 #[.val (.int i1), .val (.int i2), .val (.int rl), .val (.int a1), .val (.int a2), .val (.int (1 : Int32)), .val (.int ul), .val (.int a3), .val (.int a4), .val (.ref st206), .val (.ref st207), .val (.ref xx), .val (.int ((rl + (4 : Int32)) + ul))] [(.int (1 : Int32))]))
    refine g_ifN D217 264 at_261 (by decide) rfl ?_
    refine g_aload D217 266 at_264 rfl rfl rfl ?_
    refine g_bipush D217 268 (6 : Int32) at_266 rfl rfl ?_
    refine g_iload D217 270 at_268 rfl rfl ?_
    refine g_iloadN D217 271 at_270 rfl rfl ?_
    refine g_iloadN D217 272 at_271 rfl rfl ?_
    refine g_iload D217 274 at_272 rfl rfl ?_
    refine g_iload D217 276 at_274 rfl rfl ?_
    refine g_iload D217 278 at_276 rfl rfl ?_
    refine g_callSp D217 281 (hw _ w_170) (hw _ w_171) (hw _ w_2) (hw _ w_172) (by decide) ((cAt l Z a0 hw [] xx (6 : Int32) ((rl + (4 : Int32)) + ul) rl a1 a2 a3 a4 zc fm (([] ++ own_str rl a1 a2) ++ own_as ++ own_str ul a3 a4) 6 h210 n0 Z9 OLD9 CS hzc SFm rfm XX (own_h1_6 hrl hul) Ba1 Ba2 Ba3 Ba4).back D217 0 (hw _ w_172) (hw _ w_2) (by decide) (by decide)) rfl [(.ref xx), (.int (6 : Int32)), (.int ((rl + (4 : Int32)) + ul)), (.int rl), (.int a1), (.int a2), (.int a3), (.int a4)] rfl (lenOf pd_23 rfl) rfl (Nat.le_of_eq rfl) (by decide) (by decide) at_278 rfl ?_
    intro v218 T218 q218 D218
    subst q218
    show Go p e below _ (T218.setTop (mkF m 281 #[.val (.int i1), .val (.int i2), .val (.int rl), .val (.int a1), .val (.int a2), .val (.int (1 : Int32)), .val (.int ul), .val (.int a3), .val (.int a4), .val (.ref st206), .val (.ref st207), .val (.ref xx), .val (.int ((rl + (4 : Int32)) + ul))] [(.int (1 : Int32))]))
    refine g_ifN D218 284 at_281 (by decide) rfl ?_
    refine g_aload D218 286 at_284 rfl rfl rfl ?_
    refine g_bipush D218 288 (7 : Int32) at_286 rfl rfl ?_
    refine g_iload D218 290 at_288 rfl rfl ?_
    refine g_iloadN D218 291 at_290 rfl rfl ?_
    refine g_iloadN D218 292 at_291 rfl rfl ?_
    refine g_iload D218 294 at_292 rfl rfl ?_
    refine g_iload D218 296 at_294 rfl rfl ?_
    refine g_iload D218 298 at_296 rfl rfl ?_
    refine g_callSp D218 301 (hw _ w_170) (hw _ w_171) (hw _ w_2) (hw _ w_172) (by decide) ((cAt l Z a0 hw [] xx (7 : Int32) ((rl + (4 : Int32)) + ul) rl a1 a2 a3 a4 zc fm (([] ++ own_str rl a1 a2) ++ own_as ++ own_str ul a3 a4) 7 h210 n0 Z9 OLD9 CS hzc SFm rfm XX (own_h1_7 hrl hul) Ba1 Ba2 Ba3 Ba4).back D218 0 (hw _ w_172) (hw _ w_2) (by decide) (by decide)) rfl [(.ref xx), (.int (7 : Int32)), (.int ((rl + (4 : Int32)) + ul)), (.int rl), (.int a1), (.int a2), (.int a3), (.int a4)] rfl (lenOf pd_23 rfl) rfl (Nat.le_of_eq rfl) (by decide) (by decide) at_298 rfl ?_
    intro v219 T219 q219 D219
    subst q219
    show Go p e below _ (T219.setTop (mkF m 301 #[.val (.int i1), .val (.int i2), .val (.int rl), .val (.int a1), .val (.int a2), .val (.int (1 : Int32)), .val (.int ul), .val (.int a3), .val (.int a4), .val (.ref st206), .val (.ref st207), .val (.ref xx), .val (.int ((rl + (4 : Int32)) + ul))] [(.int (1 : Int32))]))
    refine g_ifN D219 304 at_301 (by decide) rfl ?_
    refine g_iconst D219 305 (1 : Int32) at_304 rfl rfl ?_
    refine g_goto D219 309 at_305 (by decide) (by decide) ?_
    exact r_Nw D219 hEW hret (by simp) hlk at_309 ⟨own_r1, NF210⟩ (by decide) (by decide)
set_option maxRecDepth 65536 in
set_option maxHeartbeats 40000000 in
theorem comes_1 {Post : Tables → Env → Array Value → State → Outcome → State → Prop} (hpost : ∀ tb e args s v u, (limb_1_1.after args s (.returned v) u = true ∧ limb_1_2.after args s (.returned v) u = true ∧ True) → ReturnedEndW s (.returned v) u (Jvm.fieldLocs frame_1_writes args s ++ Jvm.arrayLocs frame_1_arrays args s ++ Jvm.staticLocs frame_1_statics s) 40 2240 → Post tb e args s (.returned v) u) :
    ArmFor flags0 classFile x code maxLocals ret World_1 tables_1 room_1 Calls_1 rest_1 Pre_1 Post := by
  intro l hfl _ _ p e ha hc hk s m args below hf hA hF happ hP
  obtain ⟨hcalls, hrest, hpre⟩ := hP
  obtain ⟨-, -, -, hnamed, -, -, -, hat⟩ := (Spec.applies_iff hf).mp happ
  obtain ⟨hg, hn⟩ := and_e (Cond.before_iff.mp (show (Jvm.Cond.and given_1 narrow_1).before args s = true from hpre))
  obtain ⟨g1, gr1⟩ := and_e hg
  obtain ⟨g2, g3⟩ := and_e gr1
  obtain ⟨w0, w1, rfl⟩ : ∃ w0 w1 : Value, args = #[w0, w1] := by
    have hs : args.size = 2 := by simpa [Cond.value, given_1] using g1
    obtain ⟨L⟩ := args
    match L, hs with
    | [w0, w1], _ => exact ⟨w0, w1, rfl⟩
  have hw := fun d (hd : d ∈ tables_1) => atoms_spec (ws := Jvm.Cond.code x code maxLocals ret :: tables_1) hat d (List.mem_cons_of_mem _ hd)
  obtain ⟨hsets, hown0⟩ := atoms_of _ (rest_1_c_eq ▸ (show rest_1_c.before _ s = true from hrest))
  have hfit : Fit s := fun {y c} hc i hi => by
    obtain ⟨ha, rfl⟩ := Array.getElem?_eq_some_iff.mp hc
    have q := List.all_eq_true.mp ((Array.all_eq_true_iff_forall_mem.mp hF) _ (Array.getElem_mem ha)) i (List.mem_range.mpr hi)
    simpa [Array.getElem?_eq_getElem hi] using q
  have c3 := not_v (Cond.before_iff.mp (hsets _ (List.mem_of_getElem? (i := 2) rfl)))
  obtain ⟨i0, ei0⟩ := is_v g2
  obtain rfl : w0 = (.int i0) := Option.some.inj ei0
  obtain ⟨i1, ei1⟩ := is_v g3
  obtain rfl : w1 = (.int i1) := Option.some.inj ei1
  obtain ⟨zc, ec⟩ := is_v (Cond.before_iff.mp (hsets _ (List.mem_of_getElem? (i := 1) rfl)))
  have CS : Sta s s.heap "java/lang/String" "COMPACT_STRINGS" "Z" (.int zc) := Sta.start ec (Or.inl (hsets _ (List.mem_of_getElem? (i := 0) rfl)))
  have hzc : ¬ (zc = (0 : Int32)) := gotF (Cond.eq_ints ec (Term.int_eval (0))) c3
  obtain ⟨fm, ef, rfm⟩ := isR_v (Cond.before_iff.mp (hsets _ (List.mem_of_getElem? (i := 8) rfl)))
  have SF : Sta s s.heap "jdk/internal/util/Preconditions" "SIOOBE_FORMATTER" "Ljava/util/function/BiFunction;" fm := Sta.start ef (Or.inl (hsets _ (List.mem_of_getElem? (i := 7) rfl)))
  have hEW : EW s _ consts_1 := (EW.cons (hw _ w_123) (by decide) (EW.cons (hw _ w_18) (by decide) EW.nil))
  have hCH : CHv s consts_1 s.vm s.heap := CHv.start hEW hcalls.1 (hsets _ (List.mem_of_getElem? (i := 2) rfl)) (hw _ w_19) (hw _ w_5)
  obtain ⟨n, o, h1, h2, h3, _, L, rfl, ⟨rfl, N⟩, -, hq⟩ := cX l s _ hw tables_1 i0 i1 zc fm s.heap s.heap.size (Nat.le_refl _) hEW (Old.start s) CS hzc SF rfm p e ha hc hk s m _ below hf ((Spec.applies_iff_loose hf).mp happ).1 ⟨rfl, State.Warmed39.refl s, rfl, hCH⟩ trivial
  refine ⟨n, _, h1, h2, h3, hpost _ _ _ _ _ _ ⟨Cond.after_iff.mpr rfl, Cond.after_iff.mpr (eq_i res_at (Term.int_eval (1)) rfl), trivial⟩ ⟨hq.1, hq.2.1, hq.2.2.1, (hq.2.2.2.sift fun y hy => Or.inr (N y hy)).mono (by decide) (by decide)⟩⟩
theorem main_1_1 : Claimed_1_1 := comes_1 fun _ _ _ _ _ _ h hF => ⟨h.1, hF⟩
theorem main_1_2 : Claimed_1_2 := comes_1 fun _ _ _ _ _ _ h hF => ⟨h.2.1, hF⟩
end Jvm.Pilot.@@N@@
namespace Jvm.Pilot.@@N@@
open Jvm Jvm.ClassFile Sem Op Lib Jvm.Free Jvm.Stand Jvm.Pilot.@@N@@.Jvm.D
/-! MADE BY PROGRAM (witnessworld.py) out of the Statement's table words and the real class files: 27 classes; the members and pool entries that the words name. The judged class is class 1, her method 4. -/
namespace start1
open Jvm.ClassFile
def u (s : String) : CpInfo := .utf8 (stringToUtf16 s)
/-- a pool by its gaps: so many unusable entries, then the entry; so many at the end -/
def gap : Nat → List CpInfo → List CpInfo
  | 0, r => r
  | n + 1, r => .unusable :: gap n r
def poolList (es : List (Nat × CpInfo)) (last : Nat) : List CpInfo := es.foldr (fun e r => gap e.1 (e.2 :: r)) (gap last [])
def pool (es : List (Nat × CpInfo)) (last : Nat) : Array CpInfo := ⟨poolList es last⟩
def fileOf (pool : Array CpInfo) (this : Nat) (attrs : Array Attribute := #[]) (ms : Array MethodInfo := #[]) (fl : Nat := 33) (sup : Nat := 0) (ifs : Array Nat := #[]) (fds : Array FieldInfo := #[]) : ClassFile where
  minorVersion := 0
  majorVersion := 65
  constantPool := pool
  accessFlags := fl
  thisClass := this
  superClass := sup
  interfaces := ifs
  fields := fds
  methods := ms
  attributes := attrs
def plain (name : String) (sup : Option ClassId) : Class where
  name := name
  kind := .ordinary
  loader := none
  accessFlags := 33
  super := sup
  interfaces := #[]
  cf := none
  fields := #[]
  methods := #[]
  instanceTypes := #[]
  staticTypes := #[]
  resolved := #[]
  callSites := []
  init := .initialized
  statics := none
  mirror := none

def pool0 : Array CpInfo := pool [(5, u "<init>"), (0, u "()V"), (1, .class_ 10), (1, u "java/lang/Object")] 113

def k0c0 : Code := { maxStack := 0, maxLocals := 1, code := object_method_1_code, exceptionTable := #[], attributes := #[] }
def k0m0 : Method := { name := "<init>", desc := "()V", sig := { parameters := [], returnType := none }, accessFlags := 1, code := some k0c0 }
/-- java/lang/Object -/
def k0 : Class := { plain "java/lang/Object" none with
  accessFlags := 33
  interfaces := #[]
  cf := some (fileOf pool0 8 #[] #[{ accessFlags := 1, nameIndex := 5, descriptorIndex := 6, attributes := #[] }] 33 0 #[] #[])
  fields := #[]
  methods := #[k0m0]
  instanceTypes := #[]
  staticTypes := #[]
  resolved := Array.replicate 124 none
  statics := none }

def pool1 : Array CpInfo := pool [(2, .class_ 4), (1, u "java/lang/Object"), (0, u "<init>"), (0, u "()V"), (0, .class_ 8), (0, u "java/lang/String"), (0, .methodref 7 10), (0, .nameAndType 5 11), (0, u "([C)V"), (0, .methodref 7 13), (0, .nameAndType 14 15), (0, u "charAt"), (0, u "(I)C"), (0, .methodref 17 18), (0, .class_ 19), (0, .nameAndType 20 21), (0, u "com/example/pactum/pactum/model/ResourceLoginToStringPinLaw"), (0, u "expectedAt"), (0, u "(IICCCC)C"), (0, .methodref 17 23), (0, .nameAndType 24 25), (0, u "str"), (0, u "(ICC)Ljava/lang/String;"), (0, .class_ 27), (0, u "com/example/pactum/pactum/model/ResourceLogin"), (0, .methodref 26 29), (0, .nameAndType 5 30), (0, u "(Ljava/lang/String;Ljava/lang/String;)V"), (0, .methodref 26 32), (0, .nameAndType 33 34), (0, u "toString"), (0, u "()Ljava/lang/String;"), (0, .methodref 7 36), (0, .nameAndType 37 38), (0, u "length"), (0, u "()I"), (0, .methodref 17 40), (0, .nameAndType 41 42), (0, u "at"), (0, u "(Ljava/lang/String;IIICCCC)Z"), (3, u "law"), (0, u "(II)Z")] 2

def k1m0 : Method := { name := "<init>", desc := "()V", sig := { parameters := [], returnType := none }, accessFlags := 1, code := none }
def k1c1 : Code := { maxStack := 6, maxLocals := 3, code := method_2_code, exceptionTable := #[], attributes := #[] }
def k1m1 : Method := { name := "str", desc := "(ICC)Ljava/lang/String;", sig := { parameters := [.int, .char, .char], returnType := some (.object "java/lang/String") }, accessFlags := 10, code := some k1c1 }
def k1c2 : Code := { maxStack := 2, maxLocals := 7, code := method_3_code, exceptionTable := #[], attributes := #[] }
def k1m2 : Method := { name := "expectedAt", desc := "(IICCCC)C", sig := { parameters := [.int, .int, .char, .char, .char, .char], returnType := some .char }, accessFlags := 10, code := some k1c2 }
def k1c3 : Code := { maxStack := 7, maxLocals := 8, code := method_4_code, exceptionTable := #[], attributes := #[] }
def k1m3 : Method := { name := "at", desc := "(Ljava/lang/String;IIICCCC)Z", sig := { parameters := [(.object "java/lang/String"), .int, .int, .int, .char, .char, .char, .char], returnType := some .boolean }, accessFlags := 10, code := some k1c3 }
def k1c4 : Code := { maxStack := 8, maxLocals := 13, code := code, exceptionTable := #[], attributes := #[] }
def k1m4 : Method := { name := "law", desc := "(II)Z", sig := { parameters := [.int, .int], returnType := some .boolean }, accessFlags := 9, code := some k1c4 }
/-- com/example/pactum/pactum/model/ResourceLoginToStringPinLaw -/
def k1 : Class := { plain "com/example/pactum/pactum/model/ResourceLoginToStringPinLaw" (some 0) with
  accessFlags := 49
  interfaces := #[]
  cf := some (fileOf pool1 17 #[] #[{ accessFlags := 1, nameIndex := 5, descriptorIndex := 6, attributes := #[] }, { accessFlags := 10, nameIndex := 24, descriptorIndex := 25, attributes := #[] }, { accessFlags := 10, nameIndex := 20, descriptorIndex := 21, attributes := #[] }, { accessFlags := 10, nameIndex := 41, descriptorIndex := 42, attributes := #[] }, { accessFlags := 9, nameIndex := 46, descriptorIndex := 47, attributes := #[] }] 49 2 #[] #[])
  fields := #[]
  methods := #[k1m0, k1m1, k1m2, k1m3, k1m4]
  instanceTypes := #[]
  staticTypes := #[]
  resolved := Array.replicate 50 none
  statics := none }

def pool2 : Array CpInfo := pool [(1, .class_ 2), (0, u "java/io/Serializable"), (0, .class_ 4), (0, u "java/lang/Object")] 2

/-- java/io/Serializable -/
def k2 : Class := { plain "java/io/Serializable" (some 0) with
  accessFlags := 1537
  interfaces := #[]
  cf := some (fileOf pool2 1 #[] #[] 1537 3 #[] #[])
  fields := #[]
  methods := #[]
  instanceTypes := #[]
  staticTypes := #[]
  resolved := Array.replicate 7 none
  statics := none }

def pool3 : Array CpInfo := pool [(1, .class_ 2), (0, u "java/lang/Comparable"), (0, .class_ 4), (0, u "java/lang/Object")] 7

/-- java/lang/Comparable -/
def k3 : Class := { plain "java/lang/Comparable" (some 0) with
  accessFlags := 1537
  interfaces := #[]
  cf := some (fileOf pool3 1 #[] #[] 1537 3 #[] #[])
  fields := #[]
  methods := #[]
  instanceTypes := #[]
  staticTypes := #[]
  resolved := Array.replicate 12 none
  statics := none }

def pool4 : Array CpInfo := pool [(2, .class_ 4), (1, u "java/lang/CharSequence"), (42, .class_ 48), (0, u "java/lang/CharSequence$1CodePointIterator"), (10, .class_ 60), (0, u "java/lang/CharSequence$1CharIterator"), (5, .class_ 67), (0, u "java/lang/Object")] 63

/-- java/lang/CharSequence -/
def k4 : Class := { plain "java/lang/CharSequence" (some 0) with
  accessFlags := 1537
  interfaces := #[]
  cf := some (fileOf pool4 2 #[.nestMembers #[47, 59]] #[] 1537 66 #[] #[])
  fields := #[]
  methods := #[]
  instanceTypes := #[]
  staticTypes := #[]
  resolved := Array.replicate 131 none
  statics := none }

def pool5 : Array CpInfo := pool [(1, .class_ 2), (0, u "java/lang/constant/Constable"), (0, .class_ 4), (0, u "java/lang/Object")] 6

/-- java/lang/constant/Constable -/
def k5 : Class := { plain "java/lang/constant/Constable" (some 0) with
  accessFlags := 1537
  interfaces := #[]
  cf := some (fileOf pool5 1 #[] #[] 1537 3 #[] #[])
  fields := #[]
  methods := #[]
  instanceTypes := #[]
  staticTypes := #[]
  resolved := Array.replicate 11 none
  statics := none }

def pool6 : Array CpInfo := pool [(1, .class_ 2), (0, u "java/lang/constant/ConstantDesc"), (0, .class_ 4), (0, u "java/lang/Object")] 32

/-- java/lang/constant/ConstantDesc -/
def k6 : Class := { plain "java/lang/constant/ConstantDesc" (some 0) with
  accessFlags := 1537
  interfaces := #[]
  cf := some (fileOf pool6 1 #[] #[] 1537 3 #[] #[])
  fields := #[]
  methods := #[]
  instanceTypes := #[]
  staticTypes := #[]
  resolved := Array.replicate 37 none
  statics := none }

def pool7 : Array CpInfo := pool [(1, .methodref 2 3), (0, .class_ 4), (0, .nameAndType 5 6), (0, u "java/lang/Object"), (0, u "<init>"), (0, u "()V"), (0, .string 8), (0, u ""), (0, .fieldref 10 11), (0, .class_ 12), (0, .nameAndType 13 14), (0, u "java/lang/String"), (0, u "value"), (0, u "[B"), (0, .fieldref 10 16), (0, .nameAndType 17 18), (0, u "coder"), (0, u "B"), (2, u "hash"), (0, u "I"), (2, u "hashIsZero"), (0, u "Z"), (0, .methodref 10 28), (0, .nameAndType 5 29), (0, u "([CIILjava/lang/Void;)V"), (8, .fieldref 10 39), (0, .nameAndType 40 26), (0, u "COMPACT_STRINGS"), (1, .class_ 44), (1, u "java/lang/StringUTF16"), (0, u "compress"), (1, .methodref 42 48), (0, .nameAndType 49 50), (0, u "coderFromArrayLen"), (0, u "([BI)B"), (3, .methodref 55 56), (0, .class_ 57), (0, .nameAndType 58 59), (0, u "java/util/Arrays"), (0, u "copyOfRange"), (0, u "([BII)[B"), (47, .class_ 109), (1, u "java/lang/StringLatin1"), (32, u "()Z"), (34, .methodref 42 178), (0, .nameAndType 45 179), (0, u "([CII)[B"), (13, .class_ 195), (1, u "java/lang/System"), (16, .methodref 193 213), (0, .nameAndType 214 215), (0, u "arraycopy"), (0, u "(Ljava/lang/Object;ILjava/lang/Object;II)V"), (118, u "()I"), (0, .methodref 10 336), (0, .nameAndType 17 337), (0, u "()B"), (2, u "()[B"), (22, u "([BI)C"), (27, u "(II)V"), (35, u "(I)C"), (61, .methodref 10 490), (0, .nameAndType 5 491), (0, u "(Ljava/lang/AbstractStringBuilder;Ljava/lang/Void;)V"), (0, .methodref 10 493), (0, .nameAndType 494 142), (0, u "isLatin1"), (0, .methodref 107 496), (0, .nameAndType 497 363), (0, u "charAt"), (3, u "checkIndex"), (4, .nameAndType 507 334), (0, u "length"), (24, u "getBytes"), (16, .methodref 550 506), (0, .class_ 551), (0, u "java/lang/AbstractStringBuilder"), (0, .methodref 550 553), (0, .nameAndType 554 340), (0, u "getValue"), (20, .class_ 576), (0, u "java/lang/CharSequence"), (22, u "CASE_INSENSITIVE_ORDER"), (0, u "Ljava/util/Comparator;"), (220, u "([BIB)V"), (188, u "([C)V"), (36, .methodref 550 493), (5, .fieldref 1054 1055), (0, .class_ 1056), (0, .nameAndType 1057 1058), (0, u "jdk/internal/util/Preconditions"), (0, u "SIOOBE_FORMATTER"), (0, u "Ljava/util/function/BiFunction;"), (0, .methodref 1054 1060), (0, .nameAndType 501 1061), (0, u "(IILjava/util/function/BiFunction;)I"), (39, u "serialPersistentFields"), (0, u "[Ljava/io/ObjectStreamField;"), (0, .class_ 1104), (0, u "java/lang/String$CaseInsensitiveComparator"), (1, .class_ 1107), (0, u "java/io/Serializable"), (0, .class_ 1109), (0, u "java/lang/Comparable"), (0, .class_ 1111), (0, u "java/lang/constant/Constable"), (0, .class_ 1113), (0, u "java/lang/constant/ConstantDesc"), (2, u "serialVersionUID"), (0, u "J"), (3, u "REPL"), (0, u "C"), (2, u "LATIN1"), (1, u "UTF16"), (105, u "(Ljava/lang/StringBuilder;)V")] 217

def k7m0 : Method := { name := "<init>", desc := "()V", sig := { parameters := [], returnType := none }, accessFlags := 1, code := none }
def k7c1 : Code := { maxStack := 5, maxLocals := 2, code := jdk_42_method_3_code, exceptionTable := #[], attributes := #[] }
def k7m1 : Method := { name := "<init>", desc := "([C)V", sig := { parameters := [(.array .char)], returnType := none }, accessFlags := 1, code := some k7c1 }
def k7c2 : Code := { maxStack := 3, maxLocals := 2, code := jdk_42_method_53_code, exceptionTable := #[], attributes := #[] }
def k7m2 : Method := { name := "<init>", desc := "(Ljava/lang/StringBuilder;)V", sig := { parameters := [(.object "java/lang/StringBuilder")], returnType := none }, accessFlags := 1, code := some k7c2 }
def k7c3 : Code := { maxStack := 2, maxLocals := 1, code := jdk_42_method_54_code, exceptionTable := #[], attributes := #[] }
def k7m3 : Method := { name := "length", desc := "()I", sig := { parameters := [], returnType := some .int }, accessFlags := 1, code := some k7c3 }
def k7c4 : Code := { maxStack := 2, maxLocals := 2, code := jdk_42_method_56_code, exceptionTable := #[], attributes := #[] }
def k7m4 : Method := { name := "charAt", desc := "(I)C", sig := { parameters := [.int], returnType := some .char }, accessFlags := 1, code := some k7c4 }
def k7c5 : Code := { maxStack := 5, maxLocals := 4, code := jdk_42_method_147_code, exceptionTable := #[], attributes := #[] }
def k7m5 : Method := { name := "getBytes", desc := "([BIB)V", sig := { parameters := [(.array .byte), .int, .byte], returnType := none }, accessFlags := 0, code := some k7c5 }
def k7c6 : Code := { maxStack := 4, maxLocals := 6, code := jdk_42_method_149_code, exceptionTable := #[], attributes := #[] }
def k7m6 : Method := { name := "<init>", desc := "([CIILjava/lang/Void;)V", sig := { parameters := [(.array .char), .int, .int, (.object "java/lang/Void")], returnType := none }, accessFlags := 2, code := some k7c6 }
def k7c7 : Code := { maxStack := 5, maxLocals := 5, code := jdk_42_method_150_code, exceptionTable := #[], attributes := #[] }
def k7m7 : Method := { name := "<init>", desc := "(Ljava/lang/AbstractStringBuilder;Ljava/lang/Void;)V", sig := { parameters := [(.object "java/lang/AbstractStringBuilder"), (.object "java/lang/Void")], returnType := none }, accessFlags := 0, code := some k7c7 }
def k7c8 : Code := { maxStack := 1, maxLocals := 1, code := jdk_42_method_152_code, exceptionTable := #[], attributes := #[] }
def k7m8 : Method := { name := "coder", desc := "()B", sig := { parameters := [], returnType := some .byte }, accessFlags := 0, code := some k7c8 }
def k7c9 : Code := { maxStack := 1, maxLocals := 1, code := jdk_42_method_154_code, exceptionTable := #[], attributes := #[] }
def k7m9 : Method := { name := "isLatin1", desc := "()Z", sig := { parameters := [], returnType := some .boolean }, accessFlags := 0, code := some k7c9 }
def k7c10 : Code := { maxStack := 3, maxLocals := 2, code := jdk_42_method_155_code, exceptionTable := #[], attributes := #[] }
def k7m10 : Method := { name := "checkIndex", desc := "(II)V", sig := { parameters := [.int, .int], returnType := none }, accessFlags := 8, code := some k7c10 }
/-- java/lang/String -/
def k7 : Class := { plain "java/lang/String" (some 0) with
  accessFlags := 49
  interfaces := #[2, 3, 4, 5, 6]
  cf := some (fileOf pool7 10 #[.nestMembers #[1103]] #[{ accessFlags := 1, nameIndex := 5, descriptorIndex := 6, attributes := #[] }, { accessFlags := 1, nameIndex := 5, descriptorIndex := 1010, attributes := #[] }, { accessFlags := 1, nameIndex := 5, descriptorIndex := 1233, attributes := #[] }, { accessFlags := 1, nameIndex := 507, descriptorIndex := 334, attributes := #[] }, { accessFlags := 1, nameIndex := 497, descriptorIndex := 427, attributes := #[] }, { accessFlags := 0, nameIndex := 532, descriptorIndex := 821, attributes := #[] }, { accessFlags := 2, nameIndex := 5, descriptorIndex := 29, attributes := #[] }, { accessFlags := 0, nameIndex := 5, descriptorIndex := 491, attributes := #[] }, { accessFlags := 0, nameIndex := 17, descriptorIndex := 337, attributes := #[] }, { accessFlags := 0, nameIndex := 494, descriptorIndex := 142, attributes := #[] }, { accessFlags := 8, nameIndex := 501, descriptorIndex := 391, attributes := #[] }] 49 2 #[1106, 1108, 575, 1110, 1112] #[{ accessFlags := 18, nameIndex := 13, descriptorIndex := 14, attributes := #[] }, { accessFlags := 18, nameIndex := 17, descriptorIndex := 18, attributes := #[] }, { accessFlags := 2, nameIndex := 21, descriptorIndex := 22, attributes := #[] }, { accessFlags := 2, nameIndex := 25, descriptorIndex := 26, attributes := #[] }, { accessFlags := 26, nameIndex := 1116, descriptorIndex := 1117, attributes := #[] }, { accessFlags := 24, nameIndex := 40, descriptorIndex := 26, attributes := #[] }, { accessFlags := 26, nameIndex := 1101, descriptorIndex := 1102, attributes := #[] }, { accessFlags := 26, nameIndex := 1121, descriptorIndex := 1122, attributes := #[] }, { accessFlags := 25, nameIndex := 599, descriptorIndex := 600, attributes := #[] }, { accessFlags := 24, nameIndex := 1125, descriptorIndex := 18, attributes := #[] }, { accessFlags := 24, nameIndex := 1127, descriptorIndex := 18, attributes := #[] }])
  fields := #[{ name := "value", type := (.array .byte), accessFlags := 18, slot := 0, constantValue := 0 }, { name := "coder", type := .byte, accessFlags := 18, slot := 1, constantValue := 0 }, { name := "hash", type := .int, accessFlags := 2, slot := 2, constantValue := 0 }, { name := "hashIsZero", type := .boolean, accessFlags := 2, slot := 3, constantValue := 0 }, { name := "serialVersionUID", type := .long, accessFlags := 26, slot := 0, constantValue := 0 }, { name := "COMPACT_STRINGS", type := .boolean, accessFlags := 24, slot := 1, constantValue := 0 }, { name := "serialPersistentFields", type := (.array (.object "java/io/ObjectStreamField")), accessFlags := 26, slot := 2, constantValue := 0 }, { name := "REPL", type := .char, accessFlags := 26, slot := 3, constantValue := 0 }, { name := "CASE_INSENSITIVE_ORDER", type := (.object "java/util/Comparator"), accessFlags := 25, slot := 4, constantValue := 0 }, { name := "LATIN1", type := .byte, accessFlags := 24, slot := 5, constantValue := 0 }, { name := "UTF16", type := .byte, accessFlags := 24, slot := 6, constantValue := 0 }]
  methods := #[k7m0, k7m1, k7m2, k7m3, k7m4, k7m5, k7m6, k7m7, k7m8, k7m9, k7m10]
  instanceTypes := #[(.array .byte), .byte, .int, .boolean]
  staticTypes := #[.long, .boolean, (.array (.object "java/io/ObjectStreamField")), .char, (.object "java/util/Comparator"), .byte, .byte]
  resolved := Array.replicate 1451 none
  statics := some 0 }

def pool8 : Array CpInfo := pool [(6, .class_ 8), (1, u "java/lang/Object"), (0, u "<init>"), (0, u "()V"), (1, .class_ 14), (1, u "java/lang/StringUTF16"), (31, u "$assertionsDisabled"), (0, u "Z"), (13, u "HI_BYTE_SHIFT"), (0, u "I"), (2, u "LO_BYTE_SHIFT"), (49, .methodref 12 116), (0, .nameAndType 117 118), (0, u "compress"), (0, u "([CI[BII)I"), (3, u "([CII)[B"), (138, u "coderFromArrayLen"), (0, u "([BI)B"), (106, .class_ 371), (1, u "java/lang/StringUTF16$LinesSpliterator"), (58, u "MAX_LENGTH"), (196, .class_ 628), (0, u "java/lang/StringUTF16$CodePointsSpliterator"), (0, .class_ 630), (0, u "java/lang/StringUTF16$CharsSpliterator")] 4

def k8m0 : Method := { name := "<init>", desc := "()V", sig := { parameters := [], returnType := none }, accessFlags := 0, code := none }
def k8c1 : Code := { maxStack := 2, maxLocals := 2, code := jdk_52_method_15_code, exceptionTable := #[], attributes := #[] }
def k8m1 : Method := { name := "coderFromArrayLen", desc := "([BI)B", sig := { parameters := [(.array .byte), .int], returnType := some .byte }, accessFlags := 8, code := some k8c1 }
def k8c2 : Code := { maxStack := 5, maxLocals := 6, code := jdk_52_method_16_code, exceptionTable := #[], attributes := #[] }
def k8m2 : Method := { name := "compress", desc := "([CII)[B", sig := { parameters := [(.array .char), .int, .int], returnType := some (.array .byte) }, accessFlags := 9, code := some k8c2 }
def k8c3 : Code := { maxStack := 3, maxLocals := 7, code := jdk_52_method_21_code, exceptionTable := #[], attributes := #[] }
def k8m3 : Method := { name := "compress", desc := "([CI[BII)I", sig := { parameters := [(.array .char), .int, (.array .byte), .int, .int], returnType := some .int }, accessFlags := 9, code := some k8c3 }
/-- java/lang/StringUTF16 -/
def k8 : Class := { plain "java/lang/StringUTF16" (some 0) with
  accessFlags := 48
  interfaces := #[]
  cf := some (fileOf pool8 12 #[.nestMembers #[627, 629, 369]] #[{ accessFlags := 0, nameIndex := 9, descriptorIndex := 10, attributes := #[] }, { accessFlags := 8, nameIndex := 261, descriptorIndex := 262, attributes := #[] }, { accessFlags := 9, nameIndex := 117, descriptorIndex := 122, attributes := #[] }, { accessFlags := 9, nameIndex := 117, descriptorIndex := 118, attributes := #[] }] 48 6 #[] #[{ accessFlags := 26, nameIndex := 61, descriptorIndex := 62, attributes := #[] }, { accessFlags := 26, nameIndex := 65, descriptorIndex := 62, attributes := #[] }, { accessFlags := 24, nameIndex := 430, descriptorIndex := 62, attributes := #[] }, { accessFlags := 4120, nameIndex := 46, descriptorIndex := 47, attributes := #[] }])
  fields := #[{ name := "HI_BYTE_SHIFT", type := .int, accessFlags := 26, slot := 0, constantValue := 0 }, { name := "LO_BYTE_SHIFT", type := .int, accessFlags := 26, slot := 1, constantValue := 0 }, { name := "MAX_LENGTH", type := .int, accessFlags := 24, slot := 2, constantValue := 0 }, { name := "$assertionsDisabled", type := .boolean, accessFlags := 4120, slot := 3, constantValue := 0 }]
  methods := #[k8m0, k8m1, k8m2, k8m3]
  instanceTypes := #[]
  staticTypes := #[.int, .int, .int, .boolean]
  resolved := Array.replicate 635 none
  statics := none }

def pool9 : Array CpInfo := pool [(1, .methodref 2 3), (0, .class_ 4), (0, .nameAndType 5 6), (0, u "java/lang/Object"), (0, u "<init>"), (0, u "()V"), (0, .class_ 8), (0, u "java/lang/Record")] 13

def k9c0 : Code := { maxStack := 1, maxLocals := 1, code := jdk_30_method_1_code, exceptionTable := #[], attributes := #[] }
def k9m0 : Method := { name := "<init>", desc := "()V", sig := { parameters := [], returnType := none }, accessFlags := 4, code := some k9c0 }
/-- java/lang/Record -/
def k9 : Class := { plain "java/lang/Record" (some 0) with
  accessFlags := 1057
  interfaces := #[]
  cf := some (fileOf pool9 7 #[] #[{ accessFlags := 4, nameIndex := 5, descriptorIndex := 6, attributes := #[] }] 1057 2 #[] #[])
  fields := #[]
  methods := #[k9m0]
  instanceTypes := #[]
  staticTypes := #[]
  resolved := Array.replicate 22 none
  statics := none }

def pool10 : Array CpInfo := pool [(1, .methodref 2 3), (0, .class_ 4), (0, .nameAndType 5 6), (0, u "java/lang/Record"), (0, u "<init>"), (0, u "()V"), (0, .fieldref 8 9), (0, .class_ 10), (0, .nameAndType 11 12), (0, u "com/example/pactum/pactum/model/ResourceLogin"), (0, u "resource"), (0, u "Ljava/lang/String;"), (0, .fieldref 8 14), (0, .nameAndType 15 12), (0, u "user"), (0, .class_ 17), (0, u "java/lang/StringBuilder"), (0, .methodref 16 3), (0, .methodref 16 20), (0, .nameAndType 21 22), (0, u "append"), (0, u "(Ljava/lang/String;)Ljava/lang/StringBuilder;"), (0, .string 24), (0, u " as "), (0, .methodref 16 26), (0, .nameAndType 27 28), (0, u "toString"), (0, u "()Ljava/lang/String;"), (8, u "(Ljava/lang/String;Ljava/lang/String;)V")] 29

def k10c0 : Code := { maxStack := 2, maxLocals := 3, code := prog_9_method_1_code, exceptionTable := #[], attributes := #[] }
def k10m0 : Method := { name := "<init>", desc := "(Ljava/lang/String;Ljava/lang/String;)V", sig := { parameters := [(.object "java/lang/String"), (.object "java/lang/String")], returnType := none }, accessFlags := 1, code := some k10c0 }
def k10c1 : Code := { maxStack := 2, maxLocals := 1, code := prog_9_method_2_code, exceptionTable := #[], attributes := #[] }
def k10m1 : Method := { name := "toString", desc := "()Ljava/lang/String;", sig := { parameters := [], returnType := some (.object "java/lang/String") }, accessFlags := 1, code := some k10c1 }
/-- com/example/pactum/pactum/model/ResourceLogin -/
def k10 : Class := { plain "com/example/pactum/pactum/model/ResourceLogin" (some 9) with
  accessFlags := 49
  interfaces := #[]
  cf := some (fileOf pool10 8 #[] #[{ accessFlags := 1, nameIndex := 5, descriptorIndex := 37, attributes := #[] }, { accessFlags := 1, nameIndex := 27, descriptorIndex := 28, attributes := #[] }] 49 2 #[] #[{ accessFlags := 18, nameIndex := 11, descriptorIndex := 12, attributes := #[] }, { accessFlags := 18, nameIndex := 15, descriptorIndex := 12, attributes := #[] }])
  fields := #[{ name := "resource", type := (.object "java/lang/String"), accessFlags := 18, slot := 0, constantValue := 0 }, { name := "user", type := (.object "java/lang/String"), accessFlags := 18, slot := 1, constantValue := 0 }]
  methods := #[k10m0, k10m1]
  instanceTypes := #[(.object "java/lang/String"), (.object "java/lang/String")]
  staticTypes := #[]
  resolved := Array.replicate 67 none
  statics := none }

def pool11 : Array CpInfo := pool [(1, .class_ 2), (0, u "java/lang/Appendable"), (0, .class_ 4), (0, u "java/lang/Object")] 9

/-- java/lang/Appendable -/
def k11 : Class := { plain "java/lang/Appendable" (some 0) with
  accessFlags := 1537
  interfaces := #[]
  cf := some (fileOf pool11 1 #[] #[] 1537 3 #[] #[])
  fields := #[]
  methods := #[]
  instanceTypes := #[]
  staticTypes := #[]
  resolved := Array.replicate 14 none
  statics := none }

def pool12 : Array CpInfo := pool [(1, .class_ 2), (0, u "java/lang/String"), (0, .methodref 4 5), (0, .class_ 6), (0, .nameAndType 7 8), (0, u "java/lang/Object"), (0, u "<init>"), (0, u "()V"), (1, .class_ 12), (1, u "java/lang/AbstractStringBuilder"), (0, u "EMPTYVALUE"), (0, u "[B"), (0, .fieldref 10 16), (0, .nameAndType 17 14), (0, u "value"), (0, .fieldref 1 19), (0, .nameAndType 20 21), (0, u "COMPACT_STRINGS"), (0, u "Z"), (0, .fieldref 10 23), (0, .nameAndType 24 25), (0, u "coder"), (0, u "B"), (6, .methodref 1 33), (0, .nameAndType 34 35), (0, u "length"), (0, u "()I"), (4, .methodref 1 41), (0, .nameAndType 24 42), (0, u "()B"), (2, u "append"), (0, u "(Ljava/lang/String;)Ljava/lang/AbstractStringBuilder;"), (1, .class_ 49), (0, u "java/lang/CharSequence"), (19, u "(Ljava/lang/String;)V"), (5, u "maybeLatin1"), (3, .fieldref 10 80), (0, .nameAndType 81 82), (0, u "count"), (0, u "I"), (2, u "isLatin1"), (0, u "()Z"), (13, .methodref 10 101), (0, .nameAndType 102 103), (0, u "ensureCapacityInternal"), (0, u "(I)V"), (104, .methodref 10 209), (0, .nameAndType 210 211), (0, u "putStringAt"), (0, u "(ILjava/lang/String;)V"), (5, u "inflateIfNeededFor"), (2, .nameAndType 221 222), (0, u "getBytes"), (0, u "([BIB)V"), (174, .methodref 10 398), (0, .nameAndType 217 69), (0, .methodref 1 220), (3, u "()[B"), (40, .class_ 445), (0, u "java/lang/Appendable"), (106, u "getValue")] 56

def k12m0 : Method := { name := "<init>", desc := "()V", sig := { parameters := [], returnType := none }, accessFlags := 0, code := none }
def k12c1 : Code := { maxStack := 2, maxLocals := 2, code := jdk_68_method_2_code, exceptionTable := #[], attributes := #[] }
def k12m1 : Method := { name := "<init>", desc := "(I)V", sig := { parameters := [.int], returnType := none }, accessFlags := 0, code := some k12c1 }
def k12c2 : Code := { maxStack := 1, maxLocals := 1, code := jdk_68_method_6_code, exceptionTable := #[], attributes := #[] }
def k12m2 : Method := { name := "length", desc := "()I", sig := { parameters := [], returnType := some .int }, accessFlags := 1, code := some k12c2 }
def k12c3 : Code := { maxStack := 4, maxLocals := 3, code := jdk_68_method_9_code, exceptionTable := #[], attributes := #[] }
def k12m3 : Method := { name := "ensureCapacityInternal", desc := "(I)V", sig := { parameters := [.int], returnType := none }, accessFlags := 2, code := some k12c3 }
def k12c4 : Code := { maxStack := 3, maxLocals := 3, code := jdk_68_method_22_code, exceptionTable := #[], attributes := #[] }
def k12m4 : Method := { name := "append", desc := "(Ljava/lang/String;)Ljava/lang/AbstractStringBuilder;", sig := { parameters := [(.object "java/lang/String")], returnType := some (.object "java/lang/AbstractStringBuilder") }, accessFlags := 1, code := some k12c4 }
def k12c5 : Code := { maxStack := 1, maxLocals := 1, code := jdk_68_method_64_code, exceptionTable := #[], attributes := #[] }
def k12m5 : Method := { name := "getValue", desc := "()[B", sig := { parameters := [], returnType := some (.array .byte) }, accessFlags := 16, code := some k12c5 }
def k12c6 : Code := { maxStack := 1, maxLocals := 1, code := jdk_68_method_68_code, exceptionTable := #[], attributes := #[] }
def k12m6 : Method := { name := "isLatin1", desc := "()Z", sig := { parameters := [], returnType := some .boolean }, accessFlags := 16, code := some k12c6 }
def k12c7 : Code := { maxStack := 2, maxLocals := 2, code := jdk_68_method_71_code, exceptionTable := #[], attributes := #[] }
def k12m7 : Method := { name := "inflateIfNeededFor", desc := "(Ljava/lang/String;)V", sig := { parameters := [(.object "java/lang/String")], returnType := none }, accessFlags := 2, code := some k12c7 }
def k12c8 : Code := { maxStack := 4, maxLocals := 3, code := jdk_68_method_73_code, exceptionTable := #[], attributes := #[] }
def k12m8 : Method := { name := "putStringAt", desc := "(ILjava/lang/String;)V", sig := { parameters := [.int, (.object "java/lang/String")], returnType := none }, accessFlags := 2, code := some k12c8 }
/-- java/lang/AbstractStringBuilder -/
def k12 : Class := { plain "java/lang/AbstractStringBuilder" (some 0) with
  accessFlags := 1056
  interfaces := #[11, 4]
  cf := some (fileOf pool12 10 #[] #[{ accessFlags := 0, nameIndex := 7, descriptorIndex := 8, attributes := #[] }, { accessFlags := 0, nameIndex := 7, descriptorIndex := 103, attributes := #[] }, { accessFlags := 1, nameIndex := 34, descriptorIndex := 35, attributes := #[] }, { accessFlags := 2, nameIndex := 102, descriptorIndex := 103, attributes := #[] }, { accessFlags := 1, nameIndex := 45, descriptorIndex := 46, attributes := #[] }, { accessFlags := 16, nameIndex := 552, descriptorIndex := 403, attributes := #[] }, { accessFlags := 16, nameIndex := 85, descriptorIndex := 86, attributes := #[] }, { accessFlags := 2, nameIndex := 217, descriptorIndex := 69, attributes := #[] }, { accessFlags := 2, nameIndex := 210, descriptorIndex := 211, attributes := #[] }] 1056 4 #[444, 48] #[{ accessFlags := 0, nameIndex := 17, descriptorIndex := 14, attributes := #[] }, { accessFlags := 0, nameIndex := 24, descriptorIndex := 25, attributes := #[] }, { accessFlags := 0, nameIndex := 75, descriptorIndex := 21, attributes := #[] }, { accessFlags := 0, nameIndex := 81, descriptorIndex := 82, attributes := #[] }, { accessFlags := 26, nameIndex := 13, descriptorIndex := 14, attributes := #[] }])
  fields := #[{ name := "value", type := (.array .byte), accessFlags := 0, slot := 0, constantValue := 0 }, { name := "coder", type := .byte, accessFlags := 0, slot := 1, constantValue := 0 }, { name := "maybeLatin1", type := .boolean, accessFlags := 0, slot := 2, constantValue := 0 }, { name := "count", type := .int, accessFlags := 0, slot := 3, constantValue := 0 }, { name := "EMPTYVALUE", type := (.array .byte), accessFlags := 26, slot := 0, constantValue := 0 }]
  methods := #[k12m0, k12m1, k12m2, k12m3, k12m4, k12m5, k12m6, k12m7, k12m8]
  instanceTypes := #[(.array .byte), .byte, .boolean, .int]
  staticTypes := #[(.array .byte)]
  resolved := Array.replicate 609 none
  statics := none }

def pool13 : Array CpInfo := pool [(1, .methodref 2 3), (0, .class_ 4), (0, .nameAndType 5 6), (0, u "java/lang/AbstractStringBuilder"), (0, u "<init>"), (0, u "(I)V"), (11, .class_ 20), (1, u "java/lang/String"), (3, .class_ 26), (1, u "java/lang/StringBuilder"), (0, u "append"), (0, u "(Ljava/lang/String;)Ljava/lang/StringBuilder;"), (0, .methodref 2 30), (0, .nameAndType 27 31), (0, u "(Ljava/lang/String;)Ljava/lang/AbstractStringBuilder;"), (105, .methodref 18 138), (0, .nameAndType 5 139), (0, u "(Ljava/lang/StringBuilder;)V"), (5, u "()V"), (10, u "()I"), (186, .methodref 2 344), (0, .nameAndType 345 156), (0, u "length"), (3, .class_ 350), (0, u "java/lang/Appendable"), (0, .class_ 352), (0, u "java/io/Serializable"), (0, .class_ 354), (0, u "java/lang/Comparable"), (0, .class_ 356), (0, u "java/lang/CharSequence"), (0, u "serialVersionUID"), (0, u "J"), (40, u "toString"), (0, u "()Ljava/lang/String;")] 21

def k13c0 : Code := { maxStack := 2, maxLocals := 1, code := jdk_67_method_1_code, exceptionTable := #[], attributes := #[] }
def k13m0 : Method := { name := "<init>", desc := "()V", sig := { parameters := [], returnType := none }, accessFlags := 1, code := some k13c0 }
def k13c1 : Code := { maxStack := 2, maxLocals := 2, code := jdk_67_method_7_code, exceptionTable := #[], attributes := #[] }
def k13m1 : Method := { name := "append", desc := "(Ljava/lang/String;)Ljava/lang/StringBuilder;", sig := { parameters := [(.object "java/lang/String")], returnType := some (.object "java/lang/StringBuilder") }, accessFlags := 1, code := some k13c1 }
def k13c2 : Code := { maxStack := 3, maxLocals := 1, code := jdk_67_method_42_code, exceptionTable := #[], attributes := #[] }
def k13m2 : Method := { name := "toString", desc := "()Ljava/lang/String;", sig := { parameters := [], returnType := some (.object "java/lang/String") }, accessFlags := 1, code := some k13c2 }
def k13c3 : Code := { maxStack := 1, maxLocals := 1, code := jdk_67_method_93_code, exceptionTable := #[], attributes := #[] }
def k13m3 : Method := { name := "length", desc := "()I", sig := { parameters := [], returnType := some .int }, accessFlags := 4161, code := some k13c3 }
/-- java/lang/StringBuilder -/
def k13 : Class := { plain "java/lang/StringBuilder" (some 12) with
  accessFlags := 49
  interfaces := #[11, 2, 3, 4]
  cf := some (fileOf pool13 24 #[] #[{ accessFlags := 1, nameIndex := 5, descriptorIndex := 145, attributes := #[] }, { accessFlags := 1, nameIndex := 27, descriptorIndex := 28, attributes := #[] }, { accessFlags := 1, nameIndex := 399, descriptorIndex := 400, attributes := #[] }, { accessFlags := 4161, nameIndex := 345, descriptorIndex := 156, attributes := #[] }] 49 2 #[349, 351, 353, 355] #[{ accessFlags := 24, nameIndex := 357, descriptorIndex := 358, attributes := #[] }])
  fields := #[{ name := "serialVersionUID", type := .long, accessFlags := 24, slot := 0, constantValue := 0 }]
  methods := #[k13m0, k13m1, k13m2, k13m3]
  instanceTypes := #[(.array .byte), .byte, .boolean, .int]
  staticTypes := #[.long]
  resolved := Array.replicate 422 none
  statics := none }

def pool14 : Array CpInfo := pool [(2, .class_ 4), (1, u "java/lang/Object"), (0, u "<init>"), (0, u "()V"), (1, .class_ 10), (1, u "java/lang/System"), (0, u "allowSecurityManager"), (0, u "I"), (16, u "cons"), (0, u "Ljava/io/Console;"), (77, .class_ 110), (1, u "java/lang/System$CallersHolder"), (43, u "initialErrStream"), (0, u "Ljava/io/PrintStream;"), (19, u "security"), (0, u "Ljava/lang/SecurityManager;"), (31, .class_ 209), (0, u "java/lang/System$1"), (7, u "props"), (0, u "Ljava/util/Properties;"), (2, u "lineSeparator"), (0, u "Ljava/lang/String;"), (96, .class_ 321), (1, u "java/lang/System$LoggerFinder"), (5, .class_ 328), (0, u "java/lang/System$Logger"), (67, u "err"), (2, u "out"), (91, u "notSupportedJnuEncoding"), (15, u "in"), (17, u "initialIn"), (0, u "Ljava/io/InputStream;"), (35, u "bootLayer"), (0, u "Ljava/lang/ModuleLayer;"), (99, .class_ 664), (0, u "java/lang/System$2"), (9, u "NEVER"), (2, u "MAYBE"), (49, u "arraycopy"), (0, u "(Ljava/lang/Object;ILjava/lang/Object;II)V"), (72, .class_ 802), (0, u "java/lang/System$Logger$Level")] 31

def k14m0 : Method := { name := "<init>", desc := "()V", sig := { parameters := [], returnType := none }, accessFlags := 2, code := none }
def k14m1 : Method := { name := "arraycopy", desc := "(Ljava/lang/Object;ILjava/lang/Object;II)V", sig := { parameters := [(.object "java/lang/Object"), .int, (.object "java/lang/Object"), .int, .int], returnType := none }, accessFlags := 265, code := none }
/-- java/lang/System -/
def k14 : Class := { plain "java/lang/System" (some 0) with
  accessFlags := 49
  interfaces := #[]
  cf := some (fileOf pool14 8 #[.nestMembers #[319, 327, 801, 108, 663, 208]] #[{ accessFlags := 2, nameIndex := 5, descriptorIndex := 6, attributes := #[] }, { accessFlags := 265, nameIndex := 727, descriptorIndex := 728, attributes := #[] }] 49 2 #[] #[{ accessFlags := 25, nameIndex := 507, descriptorIndex := 526, attributes := #[] }, { accessFlags := 25, nameIndex := 399, descriptorIndex := 155, attributes := #[] }, { accessFlags := 25, nameIndex := 396, descriptorIndex := 155, attributes := #[] }, { accessFlags := 10, nameIndex := 525, descriptorIndex := 526, attributes := #[] }, { accessFlags := 26, nameIndex := 674, descriptorIndex := 12, attributes := #[] }, { accessFlags := 26, nameIndex := 677, descriptorIndex := 12, attributes := #[] }, { accessFlags := 10, nameIndex := 11, descriptorIndex := 12, attributes := #[] }, { accessFlags := 74, nameIndex := 175, descriptorIndex := 176, attributes := #[] }, { accessFlags := 10, nameIndex := 491, descriptorIndex := 222, attributes := #[] }, { accessFlags := 74, nameIndex := 29, descriptorIndex := 30, attributes := #[] }, { accessFlags := 74, nameIndex := 154, descriptorIndex := 155, attributes := #[] }, { accessFlags := 10, nameIndex := 217, descriptorIndex := 218, attributes := #[] }, { accessFlags := 10, nameIndex := 221, descriptorIndex := 222, attributes := #[] }, { accessFlags := 8, nameIndex := 562, descriptorIndex := 563, attributes := #[] }])
  fields := #[{ name := "in", type := (.object "java/io/InputStream"), accessFlags := 25, slot := 0, constantValue := 0 }, { name := "out", type := (.object "java/io/PrintStream"), accessFlags := 25, slot := 1, constantValue := 0 }, { name := "err", type := (.object "java/io/PrintStream"), accessFlags := 25, slot := 2, constantValue := 0 }, { name := "initialIn", type := (.object "java/io/InputStream"), accessFlags := 10, slot := 3, constantValue := 0 }, { name := "NEVER", type := .int, accessFlags := 26, slot := 4, constantValue := 0 }, { name := "MAYBE", type := .int, accessFlags := 26, slot := 5, constantValue := 0 }, { name := "allowSecurityManager", type := .int, accessFlags := 10, slot := 6, constantValue := 0 }, { name := "security", type := (.object "java/lang/SecurityManager"), accessFlags := 74, slot := 7, constantValue := 0 }, { name := "notSupportedJnuEncoding", type := (.object "java/lang/String"), accessFlags := 10, slot := 8, constantValue := 0 }, { name := "cons", type := (.object "java/io/Console"), accessFlags := 74, slot := 9, constantValue := 0 }, { name := "initialErrStream", type := (.object "java/io/PrintStream"), accessFlags := 74, slot := 10, constantValue := 0 }, { name := "props", type := (.object "java/util/Properties"), accessFlags := 10, slot := 11, constantValue := 0 }, { name := "lineSeparator", type := (.object "java/lang/String"), accessFlags := 10, slot := 12, constantValue := 0 }, { name := "bootLayer", type := (.object "java/lang/ModuleLayer"), accessFlags := 8, slot := 13, constantValue := 0 }]
  methods := #[k14m0, k14m1]
  instanceTypes := #[]
  staticTypes := #[(.object "java/io/InputStream"), (.object "java/io/PrintStream"), (.object "java/io/PrintStream"), (.object "java/io/InputStream"), .int, .int, .int, (.object "java/lang/SecurityManager"), (.object "java/lang/String"), (.object "java/io/Console"), (.object "java/io/PrintStream"), (.object "java/util/Properties"), (.object "java/lang/String"), (.object "java/lang/ModuleLayer")]
  resolved := Array.replicate 834 none
  statics := none }

def pool15 : Array CpInfo := pool [(2, .class_ 4), (1, u "java/lang/Object"), (0, u "<init>"), (0, u "()V"), (7, .class_ 16), (1, u "java/util/Arrays"), (57, .class_ 76), (1, u "java/util/Arrays$NaturalOrder"), (36, .class_ 115), (1, u "java/util/Arrays$LegacyMergeSort"), (1, u "Z"), (21, u "copyOfRange"), (10, .methodref 151 152), (0, .class_ 153), (0, .nameAndType 154 155), (0, u "java/lang/System"), (0, u "arraycopy"), (0, u "(Ljava/lang/Object;ILjava/lang/Object;II)V"), (148, .methodref 305 306), (0, .class_ 307), (0, .nameAndType 308 309), (0, u "java/lang/Math"), (0, u "min"), (0, u "(II)I"), (29, .methodref 14 340), (0, .nameAndType 341 342), (0, u "copyOfRangeByte"), (0, u "([BII)[B"), (0, .methodref 14 344), (0, .nameAndType 345 346), (0, u "checkLength"), (0, u "(II)V"), (28, .class_ 376), (0, u "java/util/Arrays$ArrayList"), (68, u "$assertionsDisabled"), (269, u "MIN_ARRAY_SORT_GRAN"), (0, u "I"), (2, u "INSERTIONSORT_THRESHOLD"), (255, .class_ 976), (0, u "java/util/Arrays$ArrayItr")] 52

def k15m0 : Method := { name := "<init>", desc := "()V", sig := { parameters := [], returnType := none }, accessFlags := 2, code := none }
def k15c1 : Code := { maxStack := 4, maxLocals := 2, code := jdk_65_method_131_code, exceptionTable := #[], attributes := #[] }
def k15m1 : Method := { name := "checkLength", desc := "(II)V", sig := { parameters := [.int, .int], returnType := none }, accessFlags := 10, code := some k15c1 }
def k15c2 : Code := { maxStack := 3, maxLocals := 3, code := jdk_65_method_132_code, exceptionTable := #[], attributes := #[] }
def k15m2 : Method := { name := "copyOfRange", desc := "([BII)[B", sig := { parameters := [(.array .byte), .int, .int], returnType := some (.array .byte) }, accessFlags := 9, code := some k15c2 }
def k15c3 : Code := { maxStack := 6, maxLocals := 5, code := jdk_65_method_133_code, exceptionTable := #[], attributes := #[] }
def k15m3 : Method := { name := "copyOfRangeByte", desc := "([BII)[B", sig := { parameters := [(.array .byte), .int, .int], returnType := some (.array .byte) }, accessFlags := 10, code := some k15c3 }
/-- java/util/Arrays -/
def k15 : Class := { plain "java/util/Arrays" (some 0) with
  accessFlags := 49
  interfaces := #[]
  cf := some (fileOf pool15 14 #[.nestMembers #[975, 375, 113, 74]] #[{ accessFlags := 2, nameIndex := 5, descriptorIndex := 6, attributes := #[] }, { accessFlags := 10, nameIndex := 345, descriptorIndex := 346, attributes := #[] }, { accessFlags := 9, nameIndex := 139, descriptorIndex := 342, attributes := #[] }, { accessFlags := 10, nameIndex := 341, descriptorIndex := 342, attributes := #[] }] 49 2 #[] #[{ accessFlags := 26, nameIndex := 715, descriptorIndex := 716, attributes := #[] }, { accessFlags := 26, nameIndex := 719, descriptorIndex := 716, attributes := #[] }, { accessFlags := 4120, nameIndex := 445, descriptorIndex := 117, attributes := #[] }])
  fields := #[{ name := "MIN_ARRAY_SORT_GRAN", type := .int, accessFlags := 26, slot := 0, constantValue := 0 }, { name := "INSERTIONSORT_THRESHOLD", type := .int, accessFlags := 26, slot := 1, constantValue := 0 }, { name := "$assertionsDisabled", type := .boolean, accessFlags := 4120, slot := 2, constantValue := 0 }]
  methods := #[k15m0, k15m1, k15m2, k15m3]
  instanceTypes := #[]
  staticTypes := #[.int, .int, .boolean]
  resolved := Array.replicate 1029 none
  statics := none }

def pool16 : Array CpInfo := pool [(1, .class_ 2), (0, u "java/lang/Math"), (1, .class_ 6), (1, u "java/lang/Object"), (0, u "<init>"), (0, u "()V"), (89, .class_ 100), (1, u "java/lang/Math$RandomNumberGeneratorHolder"), (71, u "negativeZeroFloatBits"), (0, u "J"), (2, u "negativeZeroDoubleBits"), (24, u "min"), (43, u "$assertionsDisabled"), (0, u "Z"), (88, u "(II)I"), (2, u "twoToTheDoubleScaleDown"), (0, u "D"), (4, u "twoToTheDoubleScaleUp"), (9, u "E"), (3, u "PI"), (2, u "TAU"), (2, u "DEGREES_TO_RADIANS"), (0, u "RADIANS_TO_DEGREES")] 94

def k16m0 : Method := { name := "<init>", desc := "()V", sig := { parameters := [], returnType := none }, accessFlags := 2, code := none }
def k16c1 : Code := { maxStack := 2, maxLocals := 2, code := jdk_29_method_69_code, exceptionTable := #[], attributes := #[] }
def k16m1 : Method := { name := "min", desc := "(II)I", sig := { parameters := [.int, .int], returnType := some .int }, accessFlags := 9, code := some k16c1 }
/-- java/lang/Math -/
def k16 : Class := { plain "java/lang/Math" (some 0) with
  accessFlags := 49
  interfaces := #[]
  cf := some (fileOf pool16 1 #[.nestMembers #[98]] #[{ accessFlags := 2, nameIndex := 7, descriptorIndex := 8, attributes := #[] }, { accessFlags := 9, nameIndex := 201, descriptorIndex := 335, attributes := #[] }] 49 4 #[] #[{ accessFlags := 25, nameIndex := 354, descriptorIndex := 339, attributes := #[] }, { accessFlags := 25, nameIndex := 358, descriptorIndex := 339, attributes := #[] }, { accessFlags := 25, nameIndex := 361, descriptorIndex := 339, attributes := #[] }, { accessFlags := 26, nameIndex := 364, descriptorIndex := 339, attributes := #[] }, { accessFlags := 26, nameIndex := 365, descriptorIndex := 339, attributes := #[] }, { accessFlags := 26, nameIndex := 172, descriptorIndex := 173, attributes := #[] }, { accessFlags := 26, nameIndex := 176, descriptorIndex := 173, attributes := #[] }, { accessFlags := 8, nameIndex := 344, descriptorIndex := 339, attributes := #[] }, { accessFlags := 8, nameIndex := 338, descriptorIndex := 339, attributes := #[] }, { accessFlags := 4120, nameIndex := 245, descriptorIndex := 246, attributes := #[] }])
  fields := #[{ name := "E", type := .double, accessFlags := 25, slot := 0, constantValue := 0 }, { name := "PI", type := .double, accessFlags := 25, slot := 1, constantValue := 0 }, { name := "TAU", type := .double, accessFlags := 25, slot := 2, constantValue := 0 }, { name := "DEGREES_TO_RADIANS", type := .double, accessFlags := 26, slot := 3, constantValue := 0 }, { name := "RADIANS_TO_DEGREES", type := .double, accessFlags := 26, slot := 4, constantValue := 0 }, { name := "negativeZeroFloatBits", type := .long, accessFlags := 26, slot := 5, constantValue := 0 }, { name := "negativeZeroDoubleBits", type := .long, accessFlags := 26, slot := 6, constantValue := 0 }, { name := "twoToTheDoubleScaleUp", type := .double, accessFlags := 8, slot := 7, constantValue := 0 }, { name := "twoToTheDoubleScaleDown", type := .double, accessFlags := 8, slot := 8, constantValue := 0 }, { name := "$assertionsDisabled", type := .boolean, accessFlags := 4120, slot := 9, constantValue := 0 }]
  methods := #[k16m0, k16m1]
  instanceTypes := #[]
  staticTypes := #[.double, .double, .double, .double, .double, .long, .long, .double, .double, .boolean]
  resolved := Array.replicate 460 none
  statics := none }

def pool17 : Array CpInfo := pool [(1, .class_ 2), (0, u "java/lang/String"), (1, .class_ 6), (1, u "java/lang/Object"), (0, u "<init>"), (0, u "()V"), (0, .methodref 1 10), (0, .nameAndType 11 12), (0, u "checkIndex"), (0, u "(II)V"), (1, .class_ 16), (1, u "java/lang/StringLatin1"), (36, u "([BI)C"), (67, u "$assertionsDisabled"), (0, u "Z"), (98, .class_ 223), (1, u "java/lang/StringLatin1$LinesSpliterator"), (28, u "charAt"), (137, .class_ 391), (0, u "java/lang/StringLatin1$CharsSpliterator")] 3

def k17m0 : Method := { name := "<init>", desc := "()V", sig := { parameters := [], returnType := none }, accessFlags := 0, code := none }
def k17c1 : Code := { maxStack := 2, maxLocals := 2, code := jdk_43_method_2_code, exceptionTable := #[], attributes := #[] }
def k17m1 : Method := { name := "charAt", desc := "([BI)C", sig := { parameters := [(.array .byte), .int], returnType := some .char }, accessFlags := 9, code := some k17c1 }
/-- java/lang/StringLatin1 -/
def k17 : Class := { plain "java/lang/StringLatin1" (some 0) with
  accessFlags := 48
  interfaces := #[]
  cf := some (fileOf pool17 14 #[.nestMembers #[390, 221]] #[{ accessFlags := 0, nameIndex := 7, descriptorIndex := 8, attributes := #[] }, { accessFlags := 9, nameIndex := 252, descriptorIndex := 53, attributes := #[] }] 48 4 #[] #[{ accessFlags := 4120, nameIndex := 121, descriptorIndex := 122, attributes := #[] }])
  fields := #[{ name := "$assertionsDisabled", type := .boolean, accessFlags := 4120, slot := 0, constantValue := 0 }]
  methods := #[k17m0, k17m1]
  instanceTypes := #[]
  staticTypes := #[.boolean]
  resolved := Array.replicate 395 none
  statics := none }

def pool18 : Array CpInfo := pool [(2, .class_ 4), (1, u "java/lang/Object"), (0, u "<init>"), (0, u "()V"), (17, .class_ 26), (1, u "jdk/internal/util/Preconditions"), (6, u "checkIndex"), (21, .class_ 56), (0, u "jdk/internal/util/Preconditions$4"), (57, .class_ 115), (0, u "jdk/internal/util/Preconditions$1"), (7, u "SIOOBE_FORMATTER"), (0, u "Ljava/util/function/BiFunction;"), (0, .class_ 126), (0, u "jdk/internal/util/Preconditions$2"), (3, u "AIOOBE_FORMATTER"), (0, .class_ 132), (0, u "jdk/internal/util/Preconditions$3"), (3, u "IOOBE_FORMATTER"), (41, u "(IILjava/util/function/BiFunction;)I")] 15

def k18m0 : Method := { name := "<init>", desc := "()V", sig := { parameters := [], returnType := none }, accessFlags := 1, code := none }
def k18c1 : Code := { maxStack := 3, maxLocals := 3, code := jdk_41_method_11_code, exceptionTable := #[], attributes := #[] }
def k18m1 : Method := { name := "checkIndex", desc := "(IILjava/util/function/BiFunction;)I", sig := { parameters := [.int, .int, (.object "java/util/function/BiFunction")], returnType := some .int }, accessFlags := 9, code := some k18c1 }
/-- jdk/internal/util/Preconditions -/
def k18 : Class := { plain "jdk/internal/util/Preconditions" (some 0) with
  accessFlags := 33
  interfaces := #[]
  cf := some (fileOf pool18 24 #[.nestMembers #[55, 131, 125, 114]] #[{ accessFlags := 1, nameIndex := 5, descriptorIndex := 6, attributes := #[] }, { accessFlags := 9, nameIndex := 33, descriptorIndex := 178, attributes := #[] }] 33 2 #[] #[{ accessFlags := 25, nameIndex := 123, descriptorIndex := 124, attributes := #[] }, { accessFlags := 25, nameIndex := 130, descriptorIndex := 124, attributes := #[] }, { accessFlags := 25, nameIndex := 136, descriptorIndex := 124, attributes := #[] }])
  fields := #[{ name := "SIOOBE_FORMATTER", type := (.object "java/util/function/BiFunction"), accessFlags := 25, slot := 0, constantValue := 0 }, { name := "AIOOBE_FORMATTER", type := (.object "java/util/function/BiFunction"), accessFlags := 25, slot := 1, constantValue := 0 }, { name := "IOOBE_FORMATTER", type := (.object "java/util/function/BiFunction"), accessFlags := 25, slot := 2, constantValue := 0 }]
  methods := #[k18m0, k18m1]
  instanceTypes := #[]
  staticTypes := #[(.object "java/util/function/BiFunction"), (.object "java/util/function/BiFunction"), (.object "java/util/function/BiFunction")]
  resolved := Array.replicate 194 none
  statics := some 1 }

def pool19 : Array CpInfo := pool [(9, u "<init>"), (6, .class_ 18), (1, u "java/lang/Object"), (0, u "()V"), (1, .class_ 23), (1, u "jdk/internal/util/ArraysSupport"), (0, u "LOG2_ARRAY_LONG_INDEX_SCALE"), (0, u "I"), (2, u "U"), (0, u "Ljdk/internal/misc/Unsafe;"), (8, u "BIG_ENDIAN"), (0, u "Z"), (8, u "LOG2_BYTE_BIT_SIZE"), (4, u "LOG2_ARRAY_INT_INDEX_SCALE"), (54, u "JLA"), (0, u "Ljdk/internal/access/JavaLangAccess;"), (11, u "LOG2_ARRAY_BOOLEAN_INDEX_SCALE"), (9, u "LOG2_ARRAY_BYTE_INDEX_SCALE"), (5, u "LOG2_ARRAY_CHAR_INDEX_SCALE"), (5, u "LOG2_ARRAY_SHORT_INDEX_SCALE"), (18, u "LOG2_ARRAY_FLOAT_INDEX_SCALE"), (24, u "LOG2_ARRAY_DOUBLE_INDEX_SCALE"), (89, u "T_BOOLEAN"), (2, u "T_CHAR"), (1, u "T_FLOAT"), (1, u "T_DOUBLE"), (1, u "T_BYTE"), (1, u "T_SHORT"), (1, u "T_INT"), (1, u "T_LONG"), (1, u "SOFT_MAX_ARRAY_LENGTH")] 83

def k19m0 : Method := { name := "<init>", desc := "()V", sig := { parameters := [], returnType := none }, accessFlags := 2, code := none }
/-- jdk/internal/util/ArraysSupport -/
def k19 : Class := { plain "jdk/internal/util/ArraysSupport" (some 0) with
  accessFlags := 33
  interfaces := #[]
  cf := some (fileOf pool19 21 #[] #[{ accessFlags := 2, nameIndex := 9, descriptorIndex := 19, attributes := #[] }] 33 16 #[] #[{ accessFlags := 24, nameIndex := 28, descriptorIndex := 29, attributes := #[] }, { accessFlags := 26, nameIndex := 38, descriptorIndex := 39, attributes := #[] }, { accessFlags := 25, nameIndex := 121, descriptorIndex := 25, attributes := #[] }, { accessFlags := 25, nameIndex := 131, descriptorIndex := 25, attributes := #[] }, { accessFlags := 25, nameIndex := 137, descriptorIndex := 25, attributes := #[] }, { accessFlags := 25, nameIndex := 143, descriptorIndex := 25, attributes := #[] }, { accessFlags := 25, nameIndex := 53, descriptorIndex := 25, attributes := #[] }, { accessFlags := 25, nameIndex := 24, descriptorIndex := 25, attributes := #[] }, { accessFlags := 25, nameIndex := 162, descriptorIndex := 25, attributes := #[] }, { accessFlags := 25, nameIndex := 187, descriptorIndex := 25, attributes := #[] }, { accessFlags := 26, nameIndex := 48, descriptorIndex := 25, attributes := #[] }, { accessFlags := 25, nameIndex := 277, descriptorIndex := 25, attributes := #[] }, { accessFlags := 25, nameIndex := 280, descriptorIndex := 25, attributes := #[] }, { accessFlags := 25, nameIndex := 282, descriptorIndex := 25, attributes := #[] }, { accessFlags := 25, nameIndex := 284, descriptorIndex := 25, attributes := #[] }, { accessFlags := 25, nameIndex := 286, descriptorIndex := 25, attributes := #[] }, { accessFlags := 25, nameIndex := 288, descriptorIndex := 25, attributes := #[] }, { accessFlags := 25, nameIndex := 290, descriptorIndex := 25, attributes := #[] }, { accessFlags := 25, nameIndex := 292, descriptorIndex := 25, attributes := #[] }, { accessFlags := 26, nameIndex := 108, descriptorIndex := 109, attributes := #[] }, { accessFlags := 25, nameIndex := 294, descriptorIndex := 25, attributes := #[] }])
  fields := #[{ name := "U", type := (.object "jdk/internal/misc/Unsafe"), accessFlags := 24, slot := 0, constantValue := 0 }, { name := "BIG_ENDIAN", type := .boolean, accessFlags := 26, slot := 1, constantValue := 0 }, { name := "LOG2_ARRAY_BOOLEAN_INDEX_SCALE", type := .int, accessFlags := 25, slot := 2, constantValue := 0 }, { name := "LOG2_ARRAY_BYTE_INDEX_SCALE", type := .int, accessFlags := 25, slot := 3, constantValue := 0 }, { name := "LOG2_ARRAY_CHAR_INDEX_SCALE", type := .int, accessFlags := 25, slot := 4, constantValue := 0 }, { name := "LOG2_ARRAY_SHORT_INDEX_SCALE", type := .int, accessFlags := 25, slot := 5, constantValue := 0 }, { name := "LOG2_ARRAY_INT_INDEX_SCALE", type := .int, accessFlags := 25, slot := 6, constantValue := 0 }, { name := "LOG2_ARRAY_LONG_INDEX_SCALE", type := .int, accessFlags := 25, slot := 7, constantValue := 0 }, { name := "LOG2_ARRAY_FLOAT_INDEX_SCALE", type := .int, accessFlags := 25, slot := 8, constantValue := 0 }, { name := "LOG2_ARRAY_DOUBLE_INDEX_SCALE", type := .int, accessFlags := 25, slot := 9, constantValue := 0 }, { name := "LOG2_BYTE_BIT_SIZE", type := .int, accessFlags := 26, slot := 10, constantValue := 0 }, { name := "T_BOOLEAN", type := .int, accessFlags := 25, slot := 11, constantValue := 0 }, { name := "T_CHAR", type := .int, accessFlags := 25, slot := 12, constantValue := 0 }, { name := "T_FLOAT", type := .int, accessFlags := 25, slot := 13, constantValue := 0 }, { name := "T_DOUBLE", type := .int, accessFlags := 25, slot := 14, constantValue := 0 }, { name := "T_BYTE", type := .int, accessFlags := 25, slot := 15, constantValue := 0 }, { name := "T_SHORT", type := .int, accessFlags := 25, slot := 16, constantValue := 0 }, { name := "T_INT", type := .int, accessFlags := 25, slot := 17, constantValue := 0 }, { name := "T_LONG", type := .int, accessFlags := 25, slot := 18, constantValue := 0 }, { name := "JLA", type := (.object "jdk/internal/access/JavaLangAccess"), accessFlags := 26, slot := 19, constantValue := 0 }, { name := "SOFT_MAX_ARRAY_LENGTH", type := .int, accessFlags := 25, slot := 20, constantValue := 0 }]
  methods := #[k19m0]
  instanceTypes := #[]
  staticTypes := #[(.object "jdk/internal/misc/Unsafe"), .boolean, .int, .int, .int, .int, .int, .int, .int, .int, .int, .int, .int, .int, .int, .int, .int, .int, .int, (.object "jdk/internal/access/JavaLangAccess"), .int]
  resolved := Array.replicate 378 none
  statics := none }

def pool20 : Array CpInfo := pool [(1, u "java/lang/Cloneable"), (0, .class_ 1), (0, u "java/lang/Object"), (0, .class_ 3)] 3

/-- java/lang/Cloneable -/
def k20 : Class := { plain "java/lang/Cloneable" (some 0) with
  accessFlags := 1537
  interfaces := #[]
  cf := some (fileOf pool20 2 #[] #[] 1537 4 #[] #[])
  fields := #[]
  methods := #[]
  instanceTypes := #[]
  staticTypes := #[]
  resolved := Array.replicate 8 none
  statics := none }

/-- the primitive byte -/
def k21 : Class := { plain "byte" none with kind := .primitive 'B', accessFlags := 0x411 }
/-- [B -/
def k22 : Class := { plain "[B" (some 0) with kind := .array 21 .byte, interfaces := #[20, 2], accessFlags := 1041 }

/-- the primitive char -/
def k23 : Class := { plain "char" none with kind := .primitive 'C', accessFlags := 0x411 }
/-- [C -/
def k24 : Class := { plain "[C" (some 0) with kind := .array 23 .char, interfaces := #[20, 2], accessFlags := 1041 }

/-- the primitive int -/
def k25 : Class := { plain "int" none with kind := .primitive 'I', accessFlags := 0x411 }
/-- [I -/
def k26 : Class := { plain "[I" (some 0) with kind := .array 25 .int, interfaces := #[20, 2], accessFlags := 1041 }

def heap : Heap := #[{ cls := 7, slots := #[.long 0, .int 1, .null, .int 0, .null, .int 0, .int 0], vm := .statics 7 },
  { cls := 18, slots := #[.null, .null, .null], vm := .statics 18 }]
def classes : Array Class := #[k0, k1, k2, k3, k4, k5, k6, k7, k8, k9, k10, k11, k12, k13, k14, k15, k16, k17, k18, k19, k20, k21, k22, k23, k24, k25, k26]
def interned : List (Array UInt16 × Addr) := []
def slotsUsed : Nat := 10
def theMethod : MethodId := ⟨1, 4⟩
def args0 : Array Value := #[.int 5, .int 65]
def aboutOver (below : List Frame) : State where
  vm := { classes := classes, interned := interned.toArray }
  heap := heap
  slotsUsed := slotsUsed
  threads := #[{ frames := .invoking theMethod args0 :: below }]
def below0 : List Frame := [.native { method := ⟨0, 0⟩, args := #[] }]
def about1 : State := aboutOver below0
def p0 : Program := .bare "" "" ""
def e0 : Env := launch0.env 0 0 0
theorem w_frames : about1.frames = Frame.invoking theMethod args0 :: below0 := rfl
set_option maxRecDepth 65536 in
theorem w_args : argsFit about1.vm theMethod args0 = true := by decide +kernel
set_option maxRecDepth 65536 in
theorem w_heap : heapFits about1 = true := by decide +kernel
set_option maxRecDepth 65536 in
theorem w_runnable : about1.curStatus? = some .runnable := by decide +kernel
set_option maxRecDepth 65536 in
theorem w_alone : about1.alone = true := by decide +kernel
set_option maxRecDepth 65536 in
theorem w_named : about1.methodNamed? x = some theMethod := by decide +kernel
set_option maxRecDepth 65536 in
theorem w_hears : about1.hears theMethod below0 = true := by decide +kernel
set_option maxRecDepth 65536 in
theorem w_ripe : about1.ripe theMethod args0 below0 = true := by decide +kernel
theorem w_running : about1.status = .running := rfl
set_option maxRecDepth 65536 in
theorem w_room : about1.hasRoom e0.platform room_1 = true :=
  launch0.hasRoom_least _ room_1 (by decide +kernel) (by decide +kernel) (by decide +kernel) (by decide +kernel) (by decide +kernel) (by decide +kernel)
theorem allAtoms_all (ts : List Jvm.Cond) (a : Array Jvm.Value) (st : Jvm.State) : (allAtoms ts).before a st = ts.all (fun c => c.before a st) := by
  induction ts with
  | nil => rfl
  | cons c t ih =>
    show (Jvm.Cond.and c (allAtoms t)).before a st = _
    rw [Jvm.Cond.before_and, ih, List.all_cons]
def words1 : List Jvm.Cond := Jvm.Cond.code x code maxLocals ret :: tables_1
/-- a 'code' word, met by the world's own term for the bytes: nothing is compared byte by byte -/
theorem code_word {y : MethodName} {bytes : ByteArray} {mx : Nat} {rt : Option FieldType} {a : Array Value} {s : State} {m : MethodId} {meth : Method} {c : Code} (h1 : s.methodNamed? y = some m) (h2 : s.vm.method? m = some meth) (h3 : meth.code = some c) (h4 : c.code = bytes)
    (h5 : (c.maxLocals == mx && c.exceptionTable.isEmpty && decide (c.maxStack ≤ mostOperands) && decide (meth.sig.returnType = rt) && !meth.locks && decide (parseMethodDescriptor y.desc = some meth.sig)) = true) : (Jvm.Cond.code y bytes mx rt).before a s = true := by
  simp only [Bool.and_eq_true, beq_iff_eq, Bool.not_eq_true', decide_eq_true_eq] at h5
  obtain ⟨⟨⟨⟨⟨g1, g2⟩, g3⟩, g4⟩, g5⟩, g6⟩ := h5
  simp [Cond.before, Cond.holds, Cond.value, h1, h2, h3, h4, g1, g2, g3, g4, g5, g6]
def isCode : Jvm.Cond → Bool
  | .code _ _ _ _ => true
  | _ => false
theorem all_split {L : List Jvm.Cond} {P : Jvm.Cond → Bool} (h1 : L.all (fun c => isCode c || P c) = true) (h2 : ∀ c ∈ L.filter isCode, P c = true) : L.all P = true := by
  refine List.all_eq_true.mpr fun c hc => ?_
  have h := List.all_eq_true.mp h1 c hc
  rcases Bool.eq_false_or_eq_true (isCode c) with hi | hi
  · exact h2 c (List.mem_filter.mpr ⟨hc, hi⟩)
  · simpa [hi] using h
set_option maxRecDepth 65536 in
theorem w_c0 : (Jvm.Cond.code x code maxLocals ret).before args0 about1 = true := code_word (m := ⟨1, 4⟩) (meth := k1m4) (c := k1c4) (by decide +kernel) rfl rfl rfl (by decide +kernel)
set_option maxRecDepth 65536 in
theorem w_c1 : (Jvm.Cond.code ({ cls := "com/example/pactum/pactum/model/ResourceLoginToStringPinLaw", name := "str", desc := "(ICC)Ljava/lang/String;" } : Jvm.MethodName) method_2_code (3 : Nat) (Option.some (Jvm.ClassFile.FieldType.object "java/lang/String"))).before args0 about1 = true := code_word (m := ⟨1, 1⟩) (meth := k1m1) (c := k1c1) (by decide +kernel) rfl rfl rfl (by decide +kernel)
set_option maxRecDepth 65536 in
theorem w_c2 : (Jvm.Cond.code ({ cls := "java/lang/String", name := "<init>", desc := "([C)V" } : Jvm.MethodName) jdk_42_method_3_code (2 : Nat) (Option.none : Option Jvm.ClassFile.FieldType)).before args0 about1 = true := code_word (m := ⟨7, 1⟩) (meth := k7m1) (c := k7c1) (by decide +kernel) rfl rfl rfl (by decide +kernel)
set_option maxRecDepth 65536 in
theorem w_c3 : (Jvm.Cond.code ({ cls := "java/lang/String", name := "<init>", desc := "([CIILjava/lang/Void;)V" } : Jvm.MethodName) jdk_42_method_149_code (6 : Nat) (Option.none : Option Jvm.ClassFile.FieldType)).before args0 about1 = true := code_word (m := ⟨7, 6⟩) (meth := k7m6) (c := k7c6) (by decide +kernel) rfl rfl rfl (by decide +kernel)
set_option maxRecDepth 65536 in
theorem w_c4 : (Jvm.Cond.code ({ cls := "java/lang/Object", name := "<init>", desc := "()V" } : Jvm.MethodName) object_method_1_code (1 : Nat) (Option.none : Option Jvm.ClassFile.FieldType)).before args0 about1 = true := code_word (m := ⟨0, 0⟩) (meth := k0m0) (c := k0c0) (by decide +kernel) rfl rfl rfl (by decide +kernel)
set_option maxRecDepth 65536 in
theorem w_c5 : (Jvm.Cond.code ({ cls := "java/lang/StringUTF16", name := "compress", desc := "([CII)[B" } : Jvm.MethodName) jdk_52_method_16_code (6 : Nat) (Option.some (Jvm.ClassFile.FieldType.array Jvm.ClassFile.FieldType.byte))).before args0 about1 = true := code_word (m := ⟨8, 2⟩) (meth := k8m2) (c := k8c2) (by decide +kernel) rfl rfl rfl (by decide +kernel)
set_option maxRecDepth 65536 in
theorem w_c6 : (Jvm.Cond.code ({ cls := "java/lang/StringUTF16", name := "compress", desc := "([CI[BII)I" } : Jvm.MethodName) jdk_52_method_21_code (7 : Nat) (Option.some Jvm.ClassFile.FieldType.int)).before args0 about1 = true := code_word (m := ⟨8, 3⟩) (meth := k8m3) (c := k8c3) (by decide +kernel) rfl rfl rfl (by decide +kernel)
set_option maxRecDepth 65536 in
theorem w_c7 : (Jvm.Cond.code ({ cls := "java/lang/StringUTF16", name := "coderFromArrayLen", desc := "([BI)B" } : Jvm.MethodName) jdk_52_method_15_code (2 : Nat) (Option.some Jvm.ClassFile.FieldType.byte)).before args0 about1 = true := code_word (m := ⟨8, 1⟩) (meth := k8m1) (c := k8c1) (by decide +kernel) rfl rfl rfl (by decide +kernel)
set_option maxRecDepth 65536 in
theorem w_c8 : (Jvm.Cond.code ({ cls := "com/example/pactum/pactum/model/ResourceLogin", name := "<init>", desc := "(Ljava/lang/String;Ljava/lang/String;)V" } : Jvm.MethodName) prog_9_method_1_code (3 : Nat) (Option.none : Option Jvm.ClassFile.FieldType)).before args0 about1 = true := code_word (m := ⟨10, 0⟩) (meth := k10m0) (c := k10c0) (by decide +kernel) rfl rfl rfl (by decide +kernel)
set_option maxRecDepth 65536 in
theorem w_c9 : (Jvm.Cond.code ({ cls := "java/lang/Record", name := "<init>", desc := "()V" } : Jvm.MethodName) jdk_30_method_1_code (1 : Nat) (Option.none : Option Jvm.ClassFile.FieldType)).before args0 about1 = true := code_word (m := ⟨9, 0⟩) (meth := k9m0) (c := k9c0) (by decide +kernel) rfl rfl rfl (by decide +kernel)
set_option maxRecDepth 65536 in
theorem w_c10 : (Jvm.Cond.code ({ cls := "com/example/pactum/pactum/model/ResourceLogin", name := "toString", desc := "()Ljava/lang/String;" } : Jvm.MethodName) prog_9_method_2_code (1 : Nat) (Option.some (Jvm.ClassFile.FieldType.object "java/lang/String"))).before args0 about1 = true := code_word (m := ⟨10, 1⟩) (meth := k10m1) (c := k10c1) (by decide +kernel) rfl rfl rfl (by decide +kernel)
set_option maxRecDepth 65536 in
theorem w_c11 : (Jvm.Cond.code ({ cls := "java/lang/StringBuilder", name := "<init>", desc := "()V" } : Jvm.MethodName) jdk_67_method_1_code (1 : Nat) (Option.none : Option Jvm.ClassFile.FieldType)).before args0 about1 = true := code_word (m := ⟨13, 0⟩) (meth := k13m0) (c := k13c0) (by decide +kernel) rfl rfl rfl (by decide +kernel)
set_option maxRecDepth 65536 in
theorem w_c12 : (Jvm.Cond.code ({ cls := "java/lang/AbstractStringBuilder", name := "<init>", desc := "(I)V" } : Jvm.MethodName) jdk_68_method_2_code (2 : Nat) (Option.none : Option Jvm.ClassFile.FieldType)).before args0 about1 = true := code_word (m := ⟨12, 1⟩) (meth := k12m1) (c := k12c1) (by decide +kernel) rfl rfl rfl (by decide +kernel)
set_option maxRecDepth 65536 in
theorem w_c13 : (Jvm.Cond.code ({ cls := "java/lang/StringBuilder", name := "append", desc := "(Ljava/lang/String;)Ljava/lang/StringBuilder;" } : Jvm.MethodName) jdk_67_method_7_code (2 : Nat) (Option.some (Jvm.ClassFile.FieldType.object "java/lang/StringBuilder"))).before args0 about1 = true := code_word (m := ⟨13, 1⟩) (meth := k13m1) (c := k13c1) (by decide +kernel) rfl rfl rfl (by decide +kernel)
set_option maxRecDepth 65536 in
theorem w_c14 : (Jvm.Cond.code ({ cls := "java/lang/AbstractStringBuilder", name := "append", desc := "(Ljava/lang/String;)Ljava/lang/AbstractStringBuilder;" } : Jvm.MethodName) jdk_68_method_22_code (3 : Nat) (Option.some (Jvm.ClassFile.FieldType.object "java/lang/AbstractStringBuilder"))).before args0 about1 = true := code_word (m := ⟨12, 4⟩) (meth := k12m4) (c := k12c4) (by decide +kernel) rfl rfl rfl (by decide +kernel)
set_option maxRecDepth 65536 in
theorem w_c15 : (Jvm.Cond.code ({ cls := "java/lang/String", name := "length", desc := "()I" } : Jvm.MethodName) jdk_42_method_54_code (1 : Nat) (Option.some Jvm.ClassFile.FieldType.int)).before args0 about1 = true := code_word (m := ⟨7, 3⟩) (meth := k7m3) (c := k7c3) (by decide +kernel) rfl rfl rfl (by decide +kernel)
set_option maxRecDepth 65536 in
theorem w_c16 : (Jvm.Cond.code ({ cls := "java/lang/String", name := "coder", desc := "()B" } : Jvm.MethodName) jdk_42_method_152_code (1 : Nat) (Option.some Jvm.ClassFile.FieldType.byte)).before args0 about1 = true := code_word (m := ⟨7, 8⟩) (meth := k7m8) (c := k7c8) (by decide +kernel) rfl rfl rfl (by decide +kernel)
set_option maxRecDepth 65536 in
theorem w_c17 : (Jvm.Cond.code ({ cls := "java/lang/AbstractStringBuilder", name := "ensureCapacityInternal", desc := "(I)V" } : Jvm.MethodName) jdk_68_method_9_code (3 : Nat) (Option.none : Option Jvm.ClassFile.FieldType)).before args0 about1 = true := code_word (m := ⟨12, 3⟩) (meth := k12m3) (c := k12c3) (by decide +kernel) rfl rfl rfl (by decide +kernel)
set_option maxRecDepth 65536 in
theorem w_c18 : (Jvm.Cond.code ({ cls := "java/lang/AbstractStringBuilder", name := "putStringAt", desc := "(ILjava/lang/String;)V" } : Jvm.MethodName) jdk_68_method_73_code (3 : Nat) (Option.none : Option Jvm.ClassFile.FieldType)).before args0 about1 = true := code_word (m := ⟨12, 8⟩) (meth := k12m8) (c := k12c8) (by decide +kernel) rfl rfl rfl (by decide +kernel)
set_option maxRecDepth 65536 in
theorem w_c19 : (Jvm.Cond.code ({ cls := "java/lang/AbstractStringBuilder", name := "inflateIfNeededFor", desc := "(Ljava/lang/String;)V" } : Jvm.MethodName) jdk_68_method_71_code (2 : Nat) (Option.none : Option Jvm.ClassFile.FieldType)).before args0 about1 = true := code_word (m := ⟨12, 7⟩) (meth := k12m7) (c := k12c7) (by decide +kernel) rfl rfl rfl (by decide +kernel)
set_option maxRecDepth 65536 in
theorem w_c20 : (Jvm.Cond.code ({ cls := "java/lang/String", name := "getBytes", desc := "([BIB)V" } : Jvm.MethodName) jdk_42_method_147_code (4 : Nat) (Option.none : Option Jvm.ClassFile.FieldType)).before args0 about1 = true := code_word (m := ⟨7, 5⟩) (meth := k7m5) (c := k7c5) (by decide +kernel) rfl rfl rfl (by decide +kernel)
set_option maxRecDepth 65536 in
theorem w_c21 : (Jvm.Cond.code ({ cls := "java/lang/StringBuilder", name := "toString", desc := "()Ljava/lang/String;" } : Jvm.MethodName) jdk_67_method_42_code (1 : Nat) (Option.some (Jvm.ClassFile.FieldType.object "java/lang/String"))).before args0 about1 = true := code_word (m := ⟨13, 2⟩) (meth := k13m2) (c := k13c2) (by decide +kernel) rfl rfl rfl (by decide +kernel)
set_option maxRecDepth 65536 in
theorem w_c22 : (Jvm.Cond.code ({ cls := "java/lang/String", name := "<init>", desc := "(Ljava/lang/StringBuilder;)V" } : Jvm.MethodName) jdk_42_method_53_code (2 : Nat) (Option.none : Option Jvm.ClassFile.FieldType)).before args0 about1 = true := code_word (m := ⟨7, 2⟩) (meth := k7m2) (c := k7c2) (by decide +kernel) rfl rfl rfl (by decide +kernel)
set_option maxRecDepth 65536 in
theorem w_c23 : (Jvm.Cond.code ({ cls := "java/lang/String", name := "<init>", desc := "(Ljava/lang/AbstractStringBuilder;Ljava/lang/Void;)V" } : Jvm.MethodName) jdk_42_method_150_code (5 : Nat) (Option.none : Option Jvm.ClassFile.FieldType)).before args0 about1 = true := code_word (m := ⟨7, 7⟩) (meth := k7m7) (c := k7c7) (by decide +kernel) rfl rfl rfl (by decide +kernel)
set_option maxRecDepth 65536 in
theorem w_c24 : (Jvm.Cond.code ({ cls := "java/lang/AbstractStringBuilder", name := "getValue", desc := "()[B" } : Jvm.MethodName) jdk_68_method_64_code (1 : Nat) (Option.some (Jvm.ClassFile.FieldType.array Jvm.ClassFile.FieldType.byte))).before args0 about1 = true := code_word (m := ⟨12, 5⟩) (meth := k12m5) (c := k12c5) (by decide +kernel) rfl rfl rfl (by decide +kernel)
set_option maxRecDepth 65536 in
theorem w_c25 : (Jvm.Cond.code ({ cls := "java/lang/StringBuilder", name := "length", desc := "()I" } : Jvm.MethodName) jdk_67_method_93_code (1 : Nat) (Option.some Jvm.ClassFile.FieldType.int)).before args0 about1 = true := code_word (m := ⟨13, 3⟩) (meth := k13m3) (c := k13c3) (by decide +kernel) rfl rfl rfl (by decide +kernel)
set_option maxRecDepth 65536 in
theorem w_c26 : (Jvm.Cond.code ({ cls := "java/lang/AbstractStringBuilder", name := "length", desc := "()I" } : Jvm.MethodName) jdk_68_method_6_code (1 : Nat) (Option.some Jvm.ClassFile.FieldType.int)).before args0 about1 = true := code_word (m := ⟨12, 2⟩) (meth := k12m2) (c := k12c2) (by decide +kernel) rfl rfl rfl (by decide +kernel)
set_option maxRecDepth 65536 in
theorem w_c27 : (Jvm.Cond.code ({ cls := "java/lang/AbstractStringBuilder", name := "isLatin1", desc := "()Z" } : Jvm.MethodName) jdk_68_method_68_code (1 : Nat) (Option.some Jvm.ClassFile.FieldType.boolean)).before args0 about1 = true := code_word (m := ⟨12, 6⟩) (meth := k12m6) (c := k12c6) (by decide +kernel) rfl rfl rfl (by decide +kernel)
set_option maxRecDepth 65536 in
theorem w_c28 : (Jvm.Cond.code ({ cls := "java/util/Arrays", name := "copyOfRange", desc := "([BII)[B" } : Jvm.MethodName) jdk_65_method_132_code (3 : Nat) (Option.some (Jvm.ClassFile.FieldType.array Jvm.ClassFile.FieldType.byte))).before args0 about1 = true := code_word (m := ⟨15, 2⟩) (meth := k15m2) (c := k15c2) (by decide +kernel) rfl rfl rfl (by decide +kernel)
set_option maxRecDepth 65536 in
theorem w_c29 : (Jvm.Cond.code ({ cls := "java/util/Arrays", name := "copyOfRangeByte", desc := "([BII)[B" } : Jvm.MethodName) jdk_65_method_133_code (5 : Nat) (Option.some (Jvm.ClassFile.FieldType.array Jvm.ClassFile.FieldType.byte))).before args0 about1 = true := code_word (m := ⟨15, 3⟩) (meth := k15m3) (c := k15c3) (by decide +kernel) rfl rfl rfl (by decide +kernel)
set_option maxRecDepth 65536 in
theorem w_c30 : (Jvm.Cond.code ({ cls := "java/util/Arrays", name := "checkLength", desc := "(II)V" } : Jvm.MethodName) jdk_65_method_131_code (2 : Nat) (Option.none : Option Jvm.ClassFile.FieldType)).before args0 about1 = true := code_word (m := ⟨15, 1⟩) (meth := k15m1) (c := k15c1) (by decide +kernel) rfl rfl rfl (by decide +kernel)
set_option maxRecDepth 65536 in
theorem w_c31 : (Jvm.Cond.code ({ cls := "java/lang/Math", name := "min", desc := "(II)I" } : Jvm.MethodName) jdk_29_method_69_code (2 : Nat) (Option.some Jvm.ClassFile.FieldType.int)).before args0 about1 = true := code_word (m := ⟨16, 1⟩) (meth := k16m1) (c := k16c1) (by decide +kernel) rfl rfl rfl (by decide +kernel)
set_option maxRecDepth 65536 in
theorem w_c32 : (Jvm.Cond.code ({ cls := "com/example/pactum/pactum/model/ResourceLoginToStringPinLaw", name := "at", desc := "(Ljava/lang/String;IIICCCC)Z" } : Jvm.MethodName) method_4_code (8 : Nat) (Option.some Jvm.ClassFile.FieldType.boolean)).before args0 about1 = true := code_word (m := ⟨1, 3⟩) (meth := k1m3) (c := k1c3) (by decide +kernel) rfl rfl rfl (by decide +kernel)
set_option maxRecDepth 65536 in
theorem w_c33 : (Jvm.Cond.code ({ cls := "java/lang/String", name := "charAt", desc := "(I)C" } : Jvm.MethodName) jdk_42_method_56_code (2 : Nat) (Option.some Jvm.ClassFile.FieldType.char)).before args0 about1 = true := code_word (m := ⟨7, 4⟩) (meth := k7m4) (c := k7c4) (by decide +kernel) rfl rfl rfl (by decide +kernel)
set_option maxRecDepth 65536 in
theorem w_c34 : (Jvm.Cond.code ({ cls := "java/lang/String", name := "isLatin1", desc := "()Z" } : Jvm.MethodName) jdk_42_method_154_code (1 : Nat) (Option.some Jvm.ClassFile.FieldType.boolean)).before args0 about1 = true := code_word (m := ⟨7, 9⟩) (meth := k7m9) (c := k7c9) (by decide +kernel) rfl rfl rfl (by decide +kernel)
set_option maxRecDepth 65536 in
theorem w_c35 : (Jvm.Cond.code ({ cls := "java/lang/StringLatin1", name := "charAt", desc := "([BI)C" } : Jvm.MethodName) jdk_43_method_2_code (2 : Nat) (Option.some Jvm.ClassFile.FieldType.char)).before args0 about1 = true := code_word (m := ⟨17, 1⟩) (meth := k17m1) (c := k17c1) (by decide +kernel) rfl rfl rfl (by decide +kernel)
set_option maxRecDepth 65536 in
theorem w_c36 : (Jvm.Cond.code ({ cls := "java/lang/String", name := "checkIndex", desc := "(II)V" } : Jvm.MethodName) jdk_42_method_155_code (2 : Nat) (Option.none : Option Jvm.ClassFile.FieldType)).before args0 about1 = true := code_word (m := ⟨7, 10⟩) (meth := k7m10) (c := k7c10) (by decide +kernel) rfl rfl rfl (by decide +kernel)
set_option maxRecDepth 65536 in
theorem w_c37 : (Jvm.Cond.code ({ cls := "jdk/internal/util/Preconditions", name := "checkIndex", desc := "(IILjava/util/function/BiFunction;)I" } : Jvm.MethodName) jdk_41_method_11_code (3 : Nat) (Option.some Jvm.ClassFile.FieldType.int)).before args0 about1 = true := code_word (m := ⟨18, 1⟩) (meth := k18m1) (c := k18c1) (by decide +kernel) rfl rfl rfl (by decide +kernel)
set_option maxRecDepth 65536 in
theorem w_c38 : (Jvm.Cond.code ({ cls := "com/example/pactum/pactum/model/ResourceLoginToStringPinLaw", name := "expectedAt", desc := "(IICCCC)C" } : Jvm.MethodName) method_3_code (7 : Nat) (Option.some Jvm.ClassFile.FieldType.char)).before args0 about1 = true := code_word (m := ⟨1, 2⟩) (meth := k1m2) (c := k1c2) (by decide +kernel) rfl rfl rfl (by decide +kernel)
def codes1 : List Jvm.Cond := [Jvm.Cond.code x code maxLocals ret, Jvm.Cond.code ({ cls := "com/example/pactum/pactum/model/ResourceLoginToStringPinLaw", name := "str", desc := "(ICC)Ljava/lang/String;" } : Jvm.MethodName) method_2_code (3 : Nat) (Option.some (Jvm.ClassFile.FieldType.object "java/lang/String")), Jvm.Cond.code ({ cls := "java/lang/String", name := "<init>", desc := "([C)V" } : Jvm.MethodName) jdk_42_method_3_code (2 : Nat) (Option.none : Option Jvm.ClassFile.FieldType), Jvm.Cond.code ({ cls := "java/lang/String", name := "<init>", desc := "([CIILjava/lang/Void;)V" } : Jvm.MethodName) jdk_42_method_149_code (6 : Nat) (Option.none : Option Jvm.ClassFile.FieldType), Jvm.Cond.code ({ cls := "java/lang/Object", name := "<init>", desc := "()V" } : Jvm.MethodName) object_method_1_code (1 : Nat) (Option.none : Option Jvm.ClassFile.FieldType), Jvm.Cond.code ({ cls := "java/lang/StringUTF16", name := "compress", desc := "([CII)[B" } : Jvm.MethodName) jdk_52_method_16_code (6 : Nat) (Option.some (Jvm.ClassFile.FieldType.array Jvm.ClassFile.FieldType.byte)), Jvm.Cond.code ({ cls := "java/lang/StringUTF16", name := "compress", desc := "([CI[BII)I" } : Jvm.MethodName) jdk_52_method_21_code (7 : Nat) (Option.some Jvm.ClassFile.FieldType.int), Jvm.Cond.code ({ cls := "java/lang/StringUTF16", name := "coderFromArrayLen", desc := "([BI)B" } : Jvm.MethodName) jdk_52_method_15_code (2 : Nat) (Option.some Jvm.ClassFile.FieldType.byte), Jvm.Cond.code ({ cls := "com/example/pactum/pactum/model/ResourceLogin", name := "<init>", desc := "(Ljava/lang/String;Ljava/lang/String;)V" } : Jvm.MethodName) prog_9_method_1_code (3 : Nat) (Option.none : Option Jvm.ClassFile.FieldType), Jvm.Cond.code ({ cls := "java/lang/Record", name := "<init>", desc := "()V" } : Jvm.MethodName) jdk_30_method_1_code (1 : Nat) (Option.none : Option Jvm.ClassFile.FieldType), Jvm.Cond.code ({ cls := "com/example/pactum/pactum/model/ResourceLogin", name := "toString", desc := "()Ljava/lang/String;" } : Jvm.MethodName) prog_9_method_2_code (1 : Nat) (Option.some (Jvm.ClassFile.FieldType.object "java/lang/String")), Jvm.Cond.code ({ cls := "java/lang/StringBuilder", name := "<init>", desc := "()V" } : Jvm.MethodName) jdk_67_method_1_code (1 : Nat) (Option.none : Option Jvm.ClassFile.FieldType), Jvm.Cond.code ({ cls := "java/lang/AbstractStringBuilder", name := "<init>", desc := "(I)V" } : Jvm.MethodName) jdk_68_method_2_code (2 : Nat) (Option.none : Option Jvm.ClassFile.FieldType), Jvm.Cond.code ({ cls := "java/lang/StringBuilder", name := "append", desc := "(Ljava/lang/String;)Ljava/lang/StringBuilder;" } : Jvm.MethodName) jdk_67_method_7_code (2 : Nat) (Option.some (Jvm.ClassFile.FieldType.object "java/lang/StringBuilder")), Jvm.Cond.code ({ cls := "java/lang/AbstractStringBuilder", name := "append", desc := "(Ljava/lang/String;)Ljava/lang/AbstractStringBuilder;" } : Jvm.MethodName) jdk_68_method_22_code (3 : Nat) (Option.some (Jvm.ClassFile.FieldType.object "java/lang/AbstractStringBuilder")), Jvm.Cond.code ({ cls := "java/lang/String", name := "length", desc := "()I" } : Jvm.MethodName) jdk_42_method_54_code (1 : Nat) (Option.some Jvm.ClassFile.FieldType.int), Jvm.Cond.code ({ cls := "java/lang/String", name := "coder", desc := "()B" } : Jvm.MethodName) jdk_42_method_152_code (1 : Nat) (Option.some Jvm.ClassFile.FieldType.byte), Jvm.Cond.code ({ cls := "java/lang/AbstractStringBuilder", name := "ensureCapacityInternal", desc := "(I)V" } : Jvm.MethodName) jdk_68_method_9_code (3 : Nat) (Option.none : Option Jvm.ClassFile.FieldType), Jvm.Cond.code ({ cls := "java/lang/AbstractStringBuilder", name := "putStringAt", desc := "(ILjava/lang/String;)V" } : Jvm.MethodName) jdk_68_method_73_code (3 : Nat) (Option.none : Option Jvm.ClassFile.FieldType), Jvm.Cond.code ({ cls := "java/lang/AbstractStringBuilder", name := "inflateIfNeededFor", desc := "(Ljava/lang/String;)V" } : Jvm.MethodName) jdk_68_method_71_code (2 : Nat) (Option.none : Option Jvm.ClassFile.FieldType), Jvm.Cond.code ({ cls := "java/lang/String", name := "getBytes", desc := "([BIB)V" } : Jvm.MethodName) jdk_42_method_147_code (4 : Nat) (Option.none : Option Jvm.ClassFile.FieldType), Jvm.Cond.code ({ cls := "java/lang/StringBuilder", name := "toString", desc := "()Ljava/lang/String;" } : Jvm.MethodName) jdk_67_method_42_code (1 : Nat) (Option.some (Jvm.ClassFile.FieldType.object "java/lang/String")), Jvm.Cond.code ({ cls := "java/lang/String", name := "<init>", desc := "(Ljava/lang/StringBuilder;)V" } : Jvm.MethodName) jdk_42_method_53_code (2 : Nat) (Option.none : Option Jvm.ClassFile.FieldType), Jvm.Cond.code ({ cls := "java/lang/String", name := "<init>", desc := "(Ljava/lang/AbstractStringBuilder;Ljava/lang/Void;)V" } : Jvm.MethodName) jdk_42_method_150_code (5 : Nat) (Option.none : Option Jvm.ClassFile.FieldType), Jvm.Cond.code ({ cls := "java/lang/AbstractStringBuilder", name := "getValue", desc := "()[B" } : Jvm.MethodName) jdk_68_method_64_code (1 : Nat) (Option.some (Jvm.ClassFile.FieldType.array Jvm.ClassFile.FieldType.byte)), Jvm.Cond.code ({ cls := "java/lang/StringBuilder", name := "length", desc := "()I" } : Jvm.MethodName) jdk_67_method_93_code (1 : Nat) (Option.some Jvm.ClassFile.FieldType.int), Jvm.Cond.code ({ cls := "java/lang/AbstractStringBuilder", name := "length", desc := "()I" } : Jvm.MethodName) jdk_68_method_6_code (1 : Nat) (Option.some Jvm.ClassFile.FieldType.int), Jvm.Cond.code ({ cls := "java/lang/AbstractStringBuilder", name := "isLatin1", desc := "()Z" } : Jvm.MethodName) jdk_68_method_68_code (1 : Nat) (Option.some Jvm.ClassFile.FieldType.boolean), Jvm.Cond.code ({ cls := "java/util/Arrays", name := "copyOfRange", desc := "([BII)[B" } : Jvm.MethodName) jdk_65_method_132_code (3 : Nat) (Option.some (Jvm.ClassFile.FieldType.array Jvm.ClassFile.FieldType.byte)), Jvm.Cond.code ({ cls := "java/util/Arrays", name := "copyOfRangeByte", desc := "([BII)[B" } : Jvm.MethodName) jdk_65_method_133_code (5 : Nat) (Option.some (Jvm.ClassFile.FieldType.array Jvm.ClassFile.FieldType.byte)), Jvm.Cond.code ({ cls := "java/util/Arrays", name := "checkLength", desc := "(II)V" } : Jvm.MethodName) jdk_65_method_131_code (2 : Nat) (Option.none : Option Jvm.ClassFile.FieldType), Jvm.Cond.code ({ cls := "java/lang/Math", name := "min", desc := "(II)I" } : Jvm.MethodName) jdk_29_method_69_code (2 : Nat) (Option.some Jvm.ClassFile.FieldType.int), Jvm.Cond.code ({ cls := "com/example/pactum/pactum/model/ResourceLoginToStringPinLaw", name := "at", desc := "(Ljava/lang/String;IIICCCC)Z" } : Jvm.MethodName) method_4_code (8 : Nat) (Option.some Jvm.ClassFile.FieldType.boolean), Jvm.Cond.code ({ cls := "java/lang/String", name := "charAt", desc := "(I)C" } : Jvm.MethodName) jdk_42_method_56_code (2 : Nat) (Option.some Jvm.ClassFile.FieldType.char), Jvm.Cond.code ({ cls := "java/lang/String", name := "isLatin1", desc := "()Z" } : Jvm.MethodName) jdk_42_method_154_code (1 : Nat) (Option.some Jvm.ClassFile.FieldType.boolean), Jvm.Cond.code ({ cls := "java/lang/StringLatin1", name := "charAt", desc := "([BI)C" } : Jvm.MethodName) jdk_43_method_2_code (2 : Nat) (Option.some Jvm.ClassFile.FieldType.char), Jvm.Cond.code ({ cls := "java/lang/String", name := "checkIndex", desc := "(II)V" } : Jvm.MethodName) jdk_42_method_155_code (2 : Nat) (Option.none : Option Jvm.ClassFile.FieldType), Jvm.Cond.code ({ cls := "jdk/internal/util/Preconditions", name := "checkIndex", desc := "(IILjava/util/function/BiFunction;)I" } : Jvm.MethodName) jdk_41_method_11_code (3 : Nat) (Option.some Jvm.ClassFile.FieldType.int), Jvm.Cond.code ({ cls := "com/example/pactum/pactum/model/ResourceLoginToStringPinLaw", name := "expectedAt", desc := "(IICCCC)C" } : Jvm.MethodName) method_3_code (7 : Nat) (Option.some Jvm.ClassFile.FieldType.char)]
set_option maxRecDepth 65536 in
theorem codes_eq : words1.filter isCode = codes1 := rfl
theorem w_codes : ∀ c ∈ words1.filter isCode, c.before args0 about1 = true := by
  rw [codes_eq]
  intro c hc
  simp only [codes1, List.mem_cons, List.not_mem_nil, or_false] at hc
  rcases hc with rfl | rfl | rfl | rfl | rfl | rfl | rfl | rfl | rfl | rfl | rfl | rfl | rfl | rfl | rfl | rfl | rfl | rfl | rfl | rfl | rfl | rfl | rfl | rfl | rfl | rfl | rfl | rfl | rfl | rfl | rfl | rfl | rfl | rfl | rfl | rfl | rfl | rfl | rfl
  · exact w_c0
  · exact w_c1
  · exact w_c2
  · exact w_c3
  · exact w_c4
  · exact w_c5
  · exact w_c6
  · exact w_c7
  · exact w_c8
  · exact w_c9
  · exact w_c10
  · exact w_c11
  · exact w_c12
  · exact w_c13
  · exact w_c14
  · exact w_c15
  · exact w_c16
  · exact w_c17
  · exact w_c18
  · exact w_c19
  · exact w_c20
  · exact w_c21
  · exact w_c22
  · exact w_c23
  · exact w_c24
  · exact w_c25
  · exact w_c26
  · exact w_c27
  · exact w_c28
  · exact w_c29
  · exact w_c30
  · exact w_c31
  · exact w_c32
  · exact w_c33
  · exact w_c34
  · exact w_c35
  · exact w_c36
  · exact w_c37
  · exact w_c38
set_option maxRecDepth 65536 in
theorem w_t1 : (words1.take 24).all (fun c => isCode c || c.before args0 about1) = true := by decide +kernel
set_option maxRecDepth 65536 in
theorem w_t2 : ((words1.drop 24).take 24).all (fun c => isCode c || c.before args0 about1) = true := by decide +kernel
set_option maxRecDepth 65536 in
theorem w_t3 : (((words1.drop 24).drop 24).take 24).all (fun c => isCode c || c.before args0 about1) = true := by decide +kernel
set_option maxRecDepth 65536 in
theorem w_t4 : ((((words1.drop 24).drop 24).drop 24).take 24).all (fun c => isCode c || c.before args0 about1) = true := by decide +kernel
set_option maxRecDepth 65536 in
theorem w_t5 : (((((words1.drop 24).drop 24).drop 24).drop 24).take 24).all (fun c => isCode c || c.before args0 about1) = true := by decide +kernel
set_option maxRecDepth 65536 in
theorem w_t6 : ((((((words1.drop 24).drop 24).drop 24).drop 24).drop 24).take 24).all (fun c => isCode c || c.before args0 about1) = true := by decide +kernel
set_option maxRecDepth 65536 in
theorem w_t7 : (((((((words1.drop 24).drop 24).drop 24).drop 24).drop 24).drop 24).take 24).all (fun c => isCode c || c.before args0 about1) = true := by decide +kernel
set_option maxRecDepth 65536 in
theorem w_t8 : ((((((((words1.drop 24).drop 24).drop 24).drop 24).drop 24).drop 24).drop 24).take 24).all (fun c => isCode c || c.before args0 about1) = true := by decide +kernel
set_option maxRecDepth 65536 in
theorem w_t9 : ((((((((words1.drop 24).drop 24).drop 24).drop 24).drop 24).drop 24).drop 24).drop 24).all (fun c => isCode c || c.before args0 about1) = true := by decide +kernel
theorem w_tables : (allAtoms (Jvm.Cond.code x code maxLocals ret :: tables_1)).before args0 about1 = true := by
  rw [allAtoms_all]
  show words1.all (fun c => c.before args0 about1) = true
  refine all_split ?_ w_codes
  rw [← List.take_append_drop 24 words1, List.all_append, w_t1, ← List.take_append_drop 24 (words1.drop 24), List.all_append, w_t2, ← List.take_append_drop 24 ((words1.drop 24).drop 24), List.all_append, w_t3, ← List.take_append_drop 24 (((words1.drop 24).drop 24).drop 24), List.all_append, w_t4, ← List.take_append_drop 24 ((((words1.drop 24).drop 24).drop 24).drop 24), List.all_append, w_t5, ← List.take_append_drop 24 (((((words1.drop 24).drop 24).drop 24).drop 24).drop 24), List.all_append, w_t6, ← List.take_append_drop 24 ((((((words1.drop 24).drop 24).drop 24).drop 24).drop 24).drop 24), List.all_append, w_t7, ← List.take_append_drop 24 (((((((words1.drop 24).drop 24).drop 24).drop 24).drop 24).drop 24).drop 24), List.all_append, w_t8, w_t9]
  rfl
set_option maxRecDepth 65536 in
theorem w_rest : rest_1_c.before args0 about1 = true := by decide +kernel
set_option maxRecDepth 65536 in
theorem w_case : (Jvm.Cond.and given_1 narrow_1).before args0 about1 = true := by decide +kernel
set_option maxRecDepth 65536 in
theorem w_consts : constsHeld consts_1 about1 := Jvm.Lit.constsHeldB_iff.mp (by decide +kernel)
theorem w_applies : (headSpec (Jvm.Cond.code x code maxLocals ret :: tables_1) room_1).applies x e0.platform about1 = true :=
  (Spec.applies_iff w_frames).mpr ⟨w_running, w_runnable, w_alone, w_named, w_hears, w_ripe, w_room, w_tables⟩
theorem atStart : AtStart classFile x code maxLocals ret World_1 tables_1 room_1 Calls_1 rest_1 Pre_1 launch0 p0 e0 about1 theMethod args0 below0 :=
  ⟨lists_1, trivial, launch0.admits_env _ _ _, launch0.least_env, fairChoices_fair.cas, fairChoices_fair.clock, w_frames, w_args, w_heap, w_applies, ⟨w_consts, trivial⟩, w_rest, w_case⟩
end start1
theorem witness_1 : WitnessClaimed_1 := ⟨start1.p0, start1.e0, start1.about1, start1.theMethod, start1.args0, start1.below0, start1.atStart⟩
end Jvm.Pilot.@@N@@
