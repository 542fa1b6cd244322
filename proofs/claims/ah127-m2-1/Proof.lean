import JvmDerived
import JvmDerived.Pilot.@@N@@Statement
import JvmDerived.Pilot.@@N@@Code
set_option linter.unusedVariables false
set_option linter.unusedSimpArgs false
namespace Jvm.Pilot.@@N@@
open Jvm Jvm.ClassFile Sem Op Lib Jvm.Free Jvm.Stand Jvm.LawKit Jvm.RoadKit Bundle Jvm.Pilot.@@N@@.Jvm.D
/-- the run from S on comes to an end of which G holds -/
def Go (p : Program) (e : Env) (below : List Frame) (G : Outcome → State → Prop) (S : State) : Prop := ∃ s₂ o, Steps p.tables e below S s₂ ∧ s₂.status = .running ∧ Ended s₂ below o ∧ G o s₂
theorem Go.mono {p : Program} {e : Env} {below : List Frame} {G : Outcome → State → Prop} {S S' : State} (st : ∀ t, Steps p.tables e below S' t → Steps p.tables e below S t) (h : Go p e below G S') : Go p e below G S := by
  obtain ⟨a, b, c, d⟩ := h; exact ⟨a, b, st _ c, d⟩
/-- where a walk stands: the method's own facts, the heap, and an invariant I over the tables' state and the heap -/
def Wk (p : Program) (l : Launch) (e : Env) (R : Room) (m : MethodId) (args : Array Value) (below : List Frame) (meth : Method) (c : Code) (own : String) (bytes : ByteArray) (maxL : Nat) (Z : State) (I : State → Heap → Prop) (s' T : State) (locs : List Loc) (cells slots : Nat) (h : Heap) : Prop :=
  Stand p l e R s' m args below meth c T locs cells slots ∧ T.heap = h ∧ Z.Warmed39 s'.vm ∧ s'.vm.findClass own = some m.cls ∧ p.tables.exec = Jvm.exec ∧ c.code = bytes ∧ c.maxLocals = maxL ∧ I s' h
section Walk
variable {p : Program} {l : Launch} {e : Env} {R : Room} {m : MethodId} {args : Array Value} {below : List Frame} {meth : Method} {c : Code} {own : String} {bytes : ByteArray} {maxL : Nat} {Z : State} {I : State → Heap → Prop} {s' T : State} {locs : List Loc} {cells slots : Nat} {h : Heap} {G : Outcome → State → Prop} {pc : Nat} {Ls : Array Slot} {S : List Value} {a0 : Array Value}
theorem Wk.st (D : Wk p l e R m args below meth c own bytes maxL Z I s' T locs cells slots h) : Stand p l e R s' m args below meth c T locs cells slots := D.1
theorem Wk.eq (D : Wk p l e R m args below meth c own bytes maxL Z I s' T locs cells slots h) : T.heap = h := D.2.1
theorem Wk.wm (D : Wk p l e R m args below meth c own bytes maxL Z I s' T locs cells slots h) : Z.Warmed39 s'.vm := D.2.2.1
theorem Wk.ow (D : Wk p l e R m args below meth c own bytes maxL Z I s' T locs cells slots h) : s'.vm.findClass own = some m.cls := D.2.2.2.1
theorem Wk.ex (D : Wk p l e R m args below meth c own bytes maxL Z I s' T locs cells slots h) : p.tables.exec = Jvm.exec := D.2.2.2.2.1
theorem Wk.cb (D : Wk p l e R m args below meth c own bytes maxL Z I s' T locs cells slots h) : c.code = bytes := D.2.2.2.2.2.1
theorem Wk.ml (D : Wk p l e R m args below meth c own bytes maxL Z I s' T locs cells slots h) : c.maxLocals = maxL := D.2.2.2.2.2.2.1
theorem Wk.iv (D : Wk p l e R m args below meth c own bytes maxL Z I s' T locs cells slots h) : I s' h := D.2.2.2.2.2.2.2
theorem Wk.mk' {T' : State} {locs' : List Loc} {cells' slots' : Nat} {h' : Heap} (D : Wk p l e R m args below meth c own bytes maxL Z I s' T locs cells slots h) (X : Stand p l e R s' m args below meth c T' locs' cells' slots') (q : T'.heap = h') (i : I s' h') : Wk p l e R m args below meth c own bytes maxL Z I s' T' locs' cells' slots' h' := ⟨X, q, D.wm, D.ow, D.ex, D.cb, D.ml, i⟩
theorem g_aloadN (D : Wk p l e R m args below meth c own bytes maxL Z I s' T locs cells slots h) (pc' : Nat) {k : Fin 4} {v : Value} (hd : decode bytes pc = .ok (.aload_n k, 1)) (hl : Ls[k.val]? = some (.val v)) (hv : v.isRef = true) (hp : pc + 1 = pc') (hr : Go p e below G (T.setTop (mkF m pc' Ls (v :: S)))) : Go p e below G (T.setTop (mkF m pc Ls S)) := by
  subst hp; exact Go.mono (fun t k => XS.aloadN D.st.here D.ex rfl (hb D.cb hd) hl hv k) hr
theorem g_aload (D : Wk p l e R m args below meth c own bytes maxL Z I s' T locs cells slots h) (pc' : Nat) {k : Nat} {v : Value} (hd : decode bytes pc = .ok (.aload k, 2)) (hl : Ls[k]? = some (.val v)) (hv : v.isRef = true) (hp : pc + 2 = pc') (hr : Go p e below G (T.setTop (mkF m pc' Ls (v :: S)))) : Go p e below G (T.setTop (mkF m pc Ls S)) := by
  subst hp; exact Go.mono (fun t k => XS.aload D.st.here D.ex rfl (hb D.cb hd) hl hv k) hr
theorem g_iloadN (D : Wk p l e R m args below meth c own bytes maxL Z I s' T locs cells slots h) (pc' : Nat) {k : Fin 4} {v : Int32} (hd : decode bytes pc = .ok (.iload_n k, 1)) (hl : Ls[k.val]? = some (.val (.int v))) (hp : pc + 1 = pc') (hr : Go p e below G (T.setTop (mkF m pc' Ls (.int v :: S)))) : Go p e below G (T.setTop (mkF m pc Ls S)) := by
  subst hp; exact Go.mono (fun t k => XS.iloadN D.st.here D.ex rfl (hb D.cb hd) hl k) hr
theorem g_iload (D : Wk p l e R m args below meth c own bytes maxL Z I s' T locs cells slots h) (pc' : Nat) {k : Nat} {v : Int32} (hd : decode bytes pc = .ok (.iload k, 2)) (hl : Ls[k]? = some (.val (.int v))) (hp : pc + 2 = pc') (hr : Go p e below G (T.setTop (mkF m pc' Ls (.int v :: S)))) : Go p e below G (T.setTop (mkF m pc Ls S)) := by
  subst hp; exact Go.mono (fun t k => XS.iload D.st.here D.ex rfl (hb D.cb hd) hl k) hr
theorem g_lloadN (D : Wk p l e R m args below meth c own bytes maxL Z I s' T locs cells slots h) (pc' : Nat) {k : Fin 4} {v : Int64} (hd : decode bytes pc = .ok (.lload_n k, 1)) (hl : Ls[k.val]? = some (.val (.long v))) (hp : pc + 1 = pc') (hr : Go p e below G (T.setTop (mkF m pc' Ls (.long v :: S)))) : Go p e below G (T.setTop (mkF m pc Ls S)) := by
  subst hp; exact Go.mono (fun t k => XS.lloadN D.st.here D.ex rfl (hb D.cb hd) hl k) hr
theorem g_lload (D : Wk p l e R m args below meth c own bytes maxL Z I s' T locs cells slots h) (pc' : Nat) {k : Nat} {v : Int64} (hd : decode bytes pc = .ok (.lload k, 2)) (hl : Ls[k]? = some (.val (.long v))) (hp : pc + 2 = pc') (hr : Go p e below G (T.setTop (mkF m pc' Ls (.long v :: S)))) : Go p e below G (T.setTop (mkF m pc Ls S)) := by
  subst hp; exact Go.mono (fun t k => XS.lload D.st.here D.ex rfl (hb D.cb hd) hl k) hr
theorem g_istoreN (D : Wk p l e R m args below meth c own bytes maxL Z I s' T locs cells slots h) (pc' : Nat) {k : Fin 4} {x : Int32} (l' : Array Slot) (hd : decode bytes pc = .ok (.istore_n k, 1)) (hl : storeLocals Ls k.val (.int x) = some l') (hp : pc + 1 = pc') (hr : Go p e below G (T.setTop (mkF m pc' l' S))) : Go p e below G (T.setTop (mkF m pc Ls (.int x :: S))) := by
  subst hp; exact Go.mono (fun t k => XS.istoreN D.st.here D.ex rfl (hb D.cb hd) rfl hl k) hr
theorem g_istore (D : Wk p l e R m args below meth c own bytes maxL Z I s' T locs cells slots h) (pc' : Nat) {k : Nat} {x : Int32} (l' : Array Slot) (hd : decode bytes pc = .ok (.istore k, 2)) (hl : storeLocals Ls k (.int x) = some l') (hp : pc + 2 = pc') (hr : Go p e below G (T.setTop (mkF m pc' l' S))) : Go p e below G (T.setTop (mkF m pc Ls (.int x :: S))) := by
  subst hp; exact Go.mono (fun t k => XS.istore D.st.here D.ex rfl (hb D.cb hd) rfl hl k) hr
theorem g_lstoreN (D : Wk p l e R m args below meth c own bytes maxL Z I s' T locs cells slots h) (pc' : Nat) {k : Fin 4} {x : Int64} (l' : Array Slot) (hd : decode bytes pc = .ok (.lstore_n k, 1)) (hl : storeLocals Ls k.val (.long x) = some l') (hp : pc + 1 = pc') (hr : Go p e below G (T.setTop (mkF m pc' l' S))) : Go p e below G (T.setTop (mkF m pc Ls (.long x :: S))) := by
  subst hp; exact Go.mono (fun t k => XS.lstoreN D.st.here D.ex rfl (hb D.cb hd) rfl hl k) hr
theorem g_lstore (D : Wk p l e R m args below meth c own bytes maxL Z I s' T locs cells slots h) (pc' : Nat) {k : Nat} {x : Int64} (l' : Array Slot) (hd : decode bytes pc = .ok (.lstore k, 2)) (hl : storeLocals Ls k (.long x) = some l') (hp : pc + 2 = pc') (hr : Go p e below G (T.setTop (mkF m pc' l' S))) : Go p e below G (T.setTop (mkF m pc Ls (.long x :: S))) := by
  subst hp; exact Go.mono (fun t k => XS.lstore D.st.here D.ex rfl (hb D.cb hd) rfl hl k) hr
theorem g_astoreN (D : Wk p l e R m args below meth c own bytes maxL Z I s' T locs cells slots h) (pc' : Nat) {k : Fin 4} {x : Value} (l' : Array Slot) (hd : decode bytes pc = .ok (.astore_n k, 1)) (hv : x.isRef = true) (hl : storeLocals Ls k.val x = some l') (hp : pc + 1 = pc') (hr : Go p e below G (T.setTop (mkF m pc' l' S))) : Go p e below G (T.setTop (mkF m pc Ls (x :: S))) := by
  subst hp; exact Go.mono (fun t k => XS.astoreN D.st.here D.ex rfl (hb D.cb hd) rfl hv hl k) hr
theorem g_astore (D : Wk p l e R m args below meth c own bytes maxL Z I s' T locs cells slots h) (pc' : Nat) {k : Nat} {x : Value} (l' : Array Slot) (hd : decode bytes pc = .ok (.astore k, 2)) (hv : x.isRef = true) (hl : storeLocals Ls k x = some l') (hp : pc + 2 = pc') (hr : Go p e below G (T.setTop (mkF m pc' l' S))) : Go p e below G (T.setTop (mkF m pc Ls (x :: S))) := by
  subst hp; exact Go.mono (fun t k => XS.astore D.st.here D.ex rfl (hb D.cb hd) rfl hv hl k) hr
theorem g_iconst (D : Wk p l e R m args below meth c own bytes maxL Z I s' T locs cells slots h) (pc' : Nat) {i : Int} (v : Int32) (hd : decode bytes pc = .ok (.iconst i, 1)) (hv : Int32.ofInt i = v) (hp : pc + 1 = pc') (hr : Go p e below G (T.setTop (mkF m pc' Ls (.int v :: S)))) : Go p e below G (T.setTop (mkF m pc Ls S)) := by
  subst hp; subst hv; exact Go.mono (fun t k => XS.iconst D.st.here D.ex rfl (hb D.cb hd) k) hr
theorem g_bipush (D : Wk p l e R m args below meth c own bytes maxL Z I s' T locs cells slots h) (pc' : Nat) {i : Int} (v : Int32) (hd : decode bytes pc = .ok (.bipush i, 2)) (hv : (Int8.ofInt i).toInt32 = v) (hp : pc + 2 = pc') (hr : Go p e below G (T.setTop (mkF m pc' Ls (.int v :: S)))) : Go p e below G (T.setTop (mkF m pc Ls S)) := by
  subst hp; subst hv; exact Go.mono (fun t k => XS.bipush D.st.here D.ex rfl (hb D.cb hd) k) hr
theorem g_sipush (D : Wk p l e R m args below meth c own bytes maxL Z I s' T locs cells slots h) (pc' : Nat) {i : Int} (v : Int32) (hd : decode bytes pc = .ok (.sipush i, 3)) (hv : (Int16.ofInt i).toInt32 = v) (hp : pc + 3 = pc') (hr : Go p e below G (T.setTop (mkF m pc' Ls (.int v :: S)))) : Go p e below G (T.setTop (mkF m pc Ls S)) := by
  subst hp; subst hv; exact Go.mono (fun t k => XS.sipush D.st.here D.ex rfl (hb D.cb hd) k) hr
theorem g_lconst (D : Wk p l e R m args below meth c own bytes maxL Z I s' T locs cells slots h) (pc' : Nat) {i : Fin 2} (v : Int64) (hd : decode bytes pc = .ok (.lconst i, 1)) (hv : Int64.ofNat i = v) (hp : pc + 1 = pc') (hr : Go p e below G (T.setTop (mkF m pc' Ls (.long v :: S)))) : Go p e below G (T.setTop (mkF m pc Ls S)) := by
  subst hp; subst hv; exact Go.mono (fun t k => XS.lconst D.st.here D.ex rfl (hb D.cb hd) k) hr
theorem g_aconst (D : Wk p l e R m args below meth c own bytes maxL Z I s' T locs cells slots h) (pc' : Nat)  (hd : decode bytes pc = .ok (.aconst_null, 1)) (hp : pc + 1 = pc') (hr : Go p e below G (T.setTop (mkF m pc' Ls (.null :: S)))) : Go p e below G (T.setTop (mkF m pc Ls S)) := by
  subst hp; exact Go.mono (fun t k => XS.aconstNull D.st.here D.ex rfl (hb D.cb hd)  k) hr
theorem g_iadd (D : Wk p l e R m args below meth c own bytes maxL Z I s' T locs cells slots h) (pc' : Nat) {x y : Int32} (hd : decode bytes pc = .ok (.iadd, 1)) (hp : pc + 1 = pc') (hr : Go p e below G (T.setTop (mkF m pc' Ls (.int (x + y) :: S)))) : Go p e below G (T.setTop (mkF m pc Ls (.int y :: .int x :: S))) := by
  subst hp; exact Go.mono (fun t k => XS.iadd D.st.here D.ex rfl (hb D.cb hd) rfl k) hr
theorem g_isub (D : Wk p l e R m args below meth c own bytes maxL Z I s' T locs cells slots h) (pc' : Nat) {x y : Int32} (hd : decode bytes pc = .ok (.isub, 1)) (hp : pc + 1 = pc') (hr : Go p e below G (T.setTop (mkF m pc' Ls (.int (x - y) :: S)))) : Go p e below G (T.setTop (mkF m pc Ls (.int y :: .int x :: S))) := by
  subst hp; exact Go.mono (fun t k => XS.isub D.st.here D.ex rfl (hb D.cb hd) rfl k) hr
theorem g_imul (D : Wk p l e R m args below meth c own bytes maxL Z I s' T locs cells slots h) (pc' : Nat) {x y : Int32} (hd : decode bytes pc = .ok (.imul, 1)) (hp : pc + 1 = pc') (hr : Go p e below G (T.setTop (mkF m pc' Ls (.int (x * y) :: S)))) : Go p e below G (T.setTop (mkF m pc Ls (.int y :: .int x :: S))) := by
  subst hp; exact Go.mono (fun t k => XS.imul D.st.here D.ex rfl (hb D.cb hd) rfl k) hr
theorem g_iand (D : Wk p l e R m args below meth c own bytes maxL Z I s' T locs cells slots h) (pc' : Nat) {x y : Int32} (hd : decode bytes pc = .ok (.iand, 1)) (hp : pc + 1 = pc') (hr : Go p e below G (T.setTop (mkF m pc' Ls (.int (x &&& y) :: S)))) : Go p e below G (T.setTop (mkF m pc Ls (.int y :: .int x :: S))) := by
  subst hp; exact Go.mono (fun t k => XS.iand D.st.here D.ex rfl (hb D.cb hd) rfl k) hr
theorem g_ior (D : Wk p l e R m args below meth c own bytes maxL Z I s' T locs cells slots h) (pc' : Nat) {x y : Int32} (hd : decode bytes pc = .ok (.ior, 1)) (hp : pc + 1 = pc') (hr : Go p e below G (T.setTop (mkF m pc' Ls (.int (x ||| y) :: S)))) : Go p e below G (T.setTop (mkF m pc Ls (.int y :: .int x :: S))) := by
  subst hp; exact Go.mono (fun t k => XS.ior D.st.here D.ex rfl (hb D.cb hd) rfl k) hr
theorem g_ixor (D : Wk p l e R m args below meth c own bytes maxL Z I s' T locs cells slots h) (pc' : Nat) {x y : Int32} (hd : decode bytes pc = .ok (.ixor, 1)) (hp : pc + 1 = pc') (hr : Go p e below G (T.setTop (mkF m pc' Ls (.int (x ^^^ y) :: S)))) : Go p e below G (T.setTop (mkF m pc Ls (.int y :: .int x :: S))) := by
  subst hp; exact Go.mono (fun t k => XS.ixor D.st.here D.ex rfl (hb D.cb hd) rfl k) hr
theorem g_ishl (D : Wk p l e R m args below meth c own bytes maxL Z I s' T locs cells slots h) (pc' : Nat) {x y : Int32} (hd : decode bytes pc = .ok (.ishl, 1)) (hp : pc + 1 = pc') (hr : Go p e below G (T.setTop (mkF m pc' Ls (.int (x <<< (y &&& 31)) :: S)))) : Go p e below G (T.setTop (mkF m pc Ls (.int y :: .int x :: S))) := by
  subst hp; exact Go.mono (fun t k => XS.ishl D.st.here D.ex rfl (hb D.cb hd) rfl k) hr
theorem g_ishr (D : Wk p l e R m args below meth c own bytes maxL Z I s' T locs cells slots h) (pc' : Nat) {x y : Int32} (hd : decode bytes pc = .ok (.ishr, 1)) (hp : pc + 1 = pc') (hr : Go p e below G (T.setTop (mkF m pc' Ls (.int (x >>> (y &&& 31)) :: S)))) : Go p e below G (T.setTop (mkF m pc Ls (.int y :: .int x :: S))) := by
  subst hp; exact Go.mono (fun t k => XS.ishr D.st.here D.ex rfl (hb D.cb hd) rfl k) hr
theorem g_iushr (D : Wk p l e R m args below meth c own bytes maxL Z I s' T locs cells slots h) (pc' : Nat) {x y : Int32} (hd : decode bytes pc = .ok (.iushr, 1)) (hp : pc + 1 = pc') (hr : Go p e below G (T.setTop (mkF m pc' Ls (.int (XT.ushr x y) :: S)))) : Go p e below G (T.setTop (mkF m pc Ls (.int y :: .int x :: S))) := by
  subst hp; exact Go.mono (fun t k => XT.iushr D.st.here D.ex rfl (hb D.cb hd) rfl k) hr
theorem g_ladd (D : Wk p l e R m args below meth c own bytes maxL Z I s' T locs cells slots h) (pc' : Nat) {x y : Int64} (hd : decode bytes pc = .ok (.ladd, 1)) (hp : pc + 1 = pc') (hr : Go p e below G (T.setTop (mkF m pc' Ls (.long (x + y) :: S)))) : Go p e below G (T.setTop (mkF m pc Ls (.long y :: .long x :: S))) := by
  subst hp; exact Go.mono (fun t k => XS.ladd D.st.here D.ex rfl (hb D.cb hd) rfl k) hr
theorem g_lsub (D : Wk p l e R m args below meth c own bytes maxL Z I s' T locs cells slots h) (pc' : Nat) {x y : Int64} (hd : decode bytes pc = .ok (.lsub, 1)) (hp : pc + 1 = pc') (hr : Go p e below G (T.setTop (mkF m pc' Ls (.long (x - y) :: S)))) : Go p e below G (T.setTop (mkF m pc Ls (.long y :: .long x :: S))) := by
  subst hp; exact Go.mono (fun t k => XS.lsub D.st.here D.ex rfl (hb D.cb hd) rfl k) hr
theorem g_lmul (D : Wk p l e R m args below meth c own bytes maxL Z I s' T locs cells slots h) (pc' : Nat) {x y : Int64} (hd : decode bytes pc = .ok (.lmul, 1)) (hp : pc + 1 = pc') (hr : Go p e below G (T.setTop (mkF m pc' Ls (.long (x * y) :: S)))) : Go p e below G (T.setTop (mkF m pc Ls (.long y :: .long x :: S))) := by
  subst hp; exact Go.mono (fun t k => XS.lmul D.st.here D.ex rfl (hb D.cb hd) rfl k) hr
theorem g_land (D : Wk p l e R m args below meth c own bytes maxL Z I s' T locs cells slots h) (pc' : Nat) {x y : Int64} (hd : decode bytes pc = .ok (.land, 1)) (hp : pc + 1 = pc') (hr : Go p e below G (T.setTop (mkF m pc' Ls (.long (x &&& y) :: S)))) : Go p e below G (T.setTop (mkF m pc Ls (.long y :: .long x :: S))) := by
  subst hp; exact Go.mono (fun t k => XS.land D.st.here D.ex rfl (hb D.cb hd) rfl k) hr
theorem g_lor (D : Wk p l e R m args below meth c own bytes maxL Z I s' T locs cells slots h) (pc' : Nat) {x y : Int64} (hd : decode bytes pc = .ok (.lor, 1)) (hp : pc + 1 = pc') (hr : Go p e below G (T.setTop (mkF m pc' Ls (.long (x ||| y) :: S)))) : Go p e below G (T.setTop (mkF m pc Ls (.long y :: .long x :: S))) := by
  subst hp; exact Go.mono (fun t k => XS.lor D.st.here D.ex rfl (hb D.cb hd) rfl k) hr
theorem g_lxor (D : Wk p l e R m args below meth c own bytes maxL Z I s' T locs cells slots h) (pc' : Nat) {x y : Int64} (hd : decode bytes pc = .ok (.lxor, 1)) (hp : pc + 1 = pc') (hr : Go p e below G (T.setTop (mkF m pc' Ls (.long (x ^^^ y) :: S)))) : Go p e below G (T.setTop (mkF m pc Ls (.long y :: .long x :: S))) := by
  subst hp; exact Go.mono (fun t k => XS.lxor D.st.here D.ex rfl (hb D.cb hd) rfl k) hr
theorem g_lushr (D : Wk p l e R m args below meth c own bytes maxL Z I s' T locs cells slots h) (pc' : Nat) {x : Int64} {y : Int32} (hd : decode bytes pc = .ok (.lushr, 1)) (hp : pc + 1 = pc') (hr : Go p e below G (T.setTop (mkF m pc' Ls (.long (XT.ushrL x y) :: S)))) : Go p e below G (T.setTop (mkF m pc Ls (.int y :: .long x :: S))) := by
  subst hp; exact Go.mono (fun t k => XT.lushr D.st.here D.ex rfl (hb D.cb hd) rfl k) hr
theorem g_lshl (D : Wk p l e R m args below meth c own bytes maxL Z I s' T locs cells slots h) (pc' : Nat) {x : Int64} {y : Int32} (hd : decode bytes pc = .ok (.lshl, 1)) (hp : pc + 1 = pc') (hr : Go p e below G (T.setTop (mkF m pc' Ls (.long (x <<< (y.toInt64 &&& 63)) :: S)))) : Go p e below G (T.setTop (mkF m pc Ls (.int y :: .long x :: S))) := by
  subst hp; exact Go.mono (fun t k => XT.lshl D.st.here D.ex rfl (hb D.cb hd) rfl k) hr
theorem g_lcmp (D : Wk p l e R m args below meth c own bytes maxL Z I s' T locs cells slots h) (pc' : Nat) {x y : Int64} (hd : decode bytes pc = .ok (.lcmp, 1)) (hp : pc + 1 = pc') (hr : Go p e below G (T.setTop (mkF m pc' Ls (.int (XT.cmpL x y) :: S)))) : Go p e below G (T.setTop (mkF m pc Ls (.long y :: .long x :: S))) := by
  subst hp; exact Go.mono (fun t k => XT.lcmp D.st.here D.ex rfl (hb D.cb hd) rfl k) hr
theorem g_idiv (D : Wk p l e R m args below meth c own bytes maxL Z I s' T locs cells slots h) (pc' : Nat) {x y : Int32} (hd : decode bytes pc = .ok (.idiv, 1)) (hy : y ≠ 0) (hp : pc + 1 = pc') (hr : Go p e below G (T.setTop (mkF m pc' Ls (.int (x / y) :: S)))) : Go p e below G (T.setTop (mkF m pc Ls (.int y :: .int x :: S))) := by
  subst hp; exact Go.mono (fun t k => XS.idiv D.st.here D.ex rfl (hb D.cb hd) rfl hy k) hr
theorem g_irem (D : Wk p l e R m args below meth c own bytes maxL Z I s' T locs cells slots h) (pc' : Nat) {x y : Int32} (hd : decode bytes pc = .ok (.irem, 1)) (hy : y ≠ 0) (hp : pc + 1 = pc') (hr : Go p e below G (T.setTop (mkF m pc' Ls (.int (x % y) :: S)))) : Go p e below G (T.setTop (mkF m pc Ls (.int y :: .int x :: S))) := by
  subst hp; exact Go.mono (fun t k => iremM D.st D.ex rfl (hb D.cb hd) rfl hy k) hr
theorem g_ineg (D : Wk p l e R m args below meth c own bytes maxL Z I s' T locs cells slots h) (pc' : Nat) {x : Int32} (hd : decode bytes pc = .ok (.ineg, 1)) (hp : pc + 1 = pc') (hr : Go p e below G (T.setTop (mkF m pc' Ls (.int (-x) :: S)))) : Go p e below G (T.setTop (mkF m pc Ls (.int x :: S))) := by
  subst hp; exact Go.mono (fun t k => XS.ineg D.st.here D.ex rfl (hb D.cb hd) rfl k) hr
theorem g_i2l (D : Wk p l e R m args below meth c own bytes maxL Z I s' T locs cells slots h) (pc' : Nat) {x : Int32} (hd : decode bytes pc = .ok (.i2l, 1)) (hp : pc + 1 = pc') (hr : Go p e below G (T.setTop (mkF m pc' Ls (.long (x.toInt64) :: S)))) : Go p e below G (T.setTop (mkF m pc Ls (.int x :: S))) := by
  subst hp; exact Go.mono (fun t k => XS.i2l D.st.here D.ex rfl (hb D.cb hd) rfl k) hr
theorem g_l2i (D : Wk p l e R m args below meth c own bytes maxL Z I s' T locs cells slots h) (pc' : Nat) {x : Int64} (hd : decode bytes pc = .ok (.l2i, 1)) (hp : pc + 1 = pc') (hr : Go p e below G (T.setTop (mkF m pc' Ls (.int (x.toInt32) :: S)))) : Go p e below G (T.setTop (mkF m pc Ls (.long x :: S))) := by
  subst hp; exact Go.mono (fun t k => XS.l2i D.st.here D.ex rfl (hb D.cb hd) rfl k) hr
theorem g_i2b (D : Wk p l e R m args below meth c own bytes maxL Z I s' T locs cells slots h) (pc' : Nat) {x : Int32} (hd : decode bytes pc = .ok (.i2b, 1)) (hp : pc + 1 = pc') (hr : Go p e below G (T.setTop (mkF m pc' Ls (.int (x.toInt8.toInt32) :: S)))) : Go p e below G (T.setTop (mkF m pc Ls (.int x :: S))) := by
  subst hp; exact Go.mono (fun t k => XS.i2b D.st.here D.ex rfl (hb D.cb hd) rfl k) hr
theorem g_i2c (D : Wk p l e R m args below meth c own bytes maxL Z I s' T locs cells slots h) (pc' : Nat) {x : Int32} (hd : decode bytes pc = .ok (.i2c, 1)) (hp : pc + 1 = pc') (hr : Go p e below G (T.setTop (mkF m pc' Ls (.int (x.toUInt32.toUInt16.toUInt32.toInt32) :: S)))) : Go p e below G (T.setTop (mkF m pc Ls (.int x :: S))) := by
  subst hp; exact Go.mono (fun t k => XS.i2c D.st.here D.ex rfl (hb D.cb hd) rfl k) hr
theorem g_i2s (D : Wk p l e R m args below meth c own bytes maxL Z I s' T locs cells slots h) (pc' : Nat) {x : Int32} (hd : decode bytes pc = .ok (.i2s, 1)) (hp : pc + 1 = pc') (hr : Go p e below G (T.setTop (mkF m pc' Ls (.int (x.toInt16.toInt32) :: S)))) : Go p e below G (T.setTop (mkF m pc Ls (.int x :: S))) := by
  subst hp; exact Go.mono (fun t k => XS.i2s D.st.here D.ex rfl (hb D.cb hd) rfl k) hr
theorem g_lneg (D : Wk p l e R m args below meth c own bytes maxL Z I s' T locs cells slots h) (pc' : Nat) {x : Int64} (hd : decode bytes pc = .ok (.lneg, 1)) (hp : pc + 1 = pc') (hr : Go p e below G (T.setTop (mkF m pc' Ls (.long (-x) :: S)))) : Go p e below G (T.setTop (mkF m pc Ls (.long x :: S))) := by
  subst hp; exact Go.mono (fun t k => XS.lneg D.st.here D.ex rfl (hb D.cb hd) rfl k) hr
theorem g_dup (D : Wk p l e R m args below meth c own bytes maxL Z I s' T locs cells slots h) (pc' : Nat) {x : Value} (hd : decode bytes pc = .ok (.dup, 1)) (hc : x.category = 1) (hp : pc + 1 = pc') (hr : Go p e below G (T.setTop (mkF m pc' Ls (x :: x :: S)))) : Go p e below G (T.setTop (mkF m pc Ls (x :: S))) := by
  subst hp; exact Go.mono (fun t k => XS.dup D.st.here D.ex rfl (hb D.cb hd) rfl hc k) hr
theorem g_pop (D : Wk p l e R m args below meth c own bytes maxL Z I s' T locs cells slots h) (pc' : Nat) {x : Value} (hd : decode bytes pc = .ok (.pop, 1)) (hc : x.category = 1) (hp : pc + 1 = pc') (hr : Go p e below G (T.setTop (mkF m pc' Ls S))) : Go p e below G (T.setTop (mkF m pc Ls (x :: S))) := by
  subst hp; exact Go.mono (fun t k => XS.pop D.st.here D.ex rfl (hb D.cb hd) rfl hc k) hr
theorem g_dupX1 (D : Wk p l e R m args below meth c own bytes maxL Z I s' T locs cells slots h) (pc' : Nat) {x y : Value} (hd : decode bytes pc = .ok (.dup_x1, 1)) (hc : x.category = 1) (hc' : y.category = 1) (hp : pc + 1 = pc') (hr : Go p e below G (T.setTop (mkF m pc' Ls (x :: y :: x :: S)))) : Go p e below G (T.setTop (mkF m pc Ls (x :: y :: S))) := by
  subst hp; exact Go.mono (fun t k => XS.dupX1 D.st.here D.ex rfl (hb D.cb hd) rfl hc hc' k) hr
theorem g_dup2 (D : Wk p l e R m args below meth c own bytes maxL Z I s' T locs cells slots h) (pc' : Nat) {x y : Value} (hd : decode bytes pc = .ok (.dup2, 1)) (hc : x.category = 1) (hc' : y.category = 1) (hp : pc + 1 = pc') (hr : Go p e below G (T.setTop (mkF m pc' Ls (x :: y :: x :: y :: S)))) : Go p e below G (T.setTop (mkF m pc Ls (x :: y :: S))) := by
  subst hp; exact Go.mono (fun t k => XT.dup2 D.st.here D.ex rfl (hb D.cb hd) rfl hc hc' k) hr
theorem g_dup2L (D : Wk p l e R m args below meth c own bytes maxL Z I s' T locs cells slots h) (pc' : Nat) {x : Int64} (hd : decode bytes pc = .ok (.dup2, 1)) (hp : pc + 1 = pc') (hr : Go p e below G (T.setTop (mkF m pc' Ls (.long x :: .long x :: S)))) : Go p e below G (T.setTop (mkF m pc Ls (.long x :: S))) := by
  subst hp; exact Go.mono (fun t k => XT.dup2L D.st.here D.ex rfl (hb D.cb hd) rfl k) hr
theorem g_iinc (D : Wk p l e R m args below meth c own bytes maxL Z I s' T locs cells slots h) (pc' : Nat) {k : Nat} {cst : Int} {x : Int32} (v : Int32) (l' : Array Slot) (hd : decode bytes pc = .ok (.iinc k cst, 3)) (hv : Int32.ofInt cst = v) (hl : Ls[k]? = some (.val (.int x))) (hl' : storeLocals Ls k (.int (x + v)) = some l') (hp : pc + 3 = pc') (hr : Go p e below G (T.setTop (mkF m pc' l' S))) : Go p e below G (T.setTop (mkF m pc Ls S)) := by
  subst hp; subst hv; exact Go.mono (fun t k => XS.iinc D.st.here D.ex rfl (hb D.cb hd) hl hl' k) hr
theorem g_goto (D : Wk p l e R m args below meth c own bytes maxL Z I s' T locs cells slots h) (pc' : Nat) {o : Int} (hd : decode bytes pc = .ok (.goto o, 3)) (ho : 0 ≤ (pc : Int) + o) (hp : ((pc : Int) + o).toNat = pc') (hr : Go p e below G (T.setTop (mkF m pc' Ls S))) : Go p e below G (T.setTop (mkF m pc Ls S)) :=
  Go.mono (fun t k => XS.goto D.st.here D.ex rfl rfl (hb D.cb hd) ho hp k) hr
theorem g_icmpY (D : Wk p l e R m args below meth c own bytes maxL Z I s' T locs cells slots h) (pc' : Nat) {cd : ClassFile.Cond} {x y : Int32} {o : Int} (hd : decode bytes pc = .ok (.if_icmp cd o, 3)) (hc : if_icmp.holds cd x y = true) (ho : 0 ≤ (pc : Int) + o) (hp : ((pc : Int) + o).toNat = pc') (hr : Go p e below G (T.setTop (mkF m pc' Ls S))) : Go p e below G (T.setTop (mkF m pc Ls (.int y :: .int x :: S))) :=
  Go.mono (fun t k => XS.icmpYes D.st.here D.ex rfl rfl (hb D.cb hd) rfl hc ho hp k) hr
theorem g_icmpN (D : Wk p l e R m args below meth c own bytes maxL Z I s' T locs cells slots h) (pc' : Nat) {cd : ClassFile.Cond} {x y : Int32} {o : Int} (hd : decode bytes pc = .ok (.if_icmp cd o, 3)) (hc : if_icmp.holds cd x y = false) (hp : pc + 3 = pc') (hr : Go p e below G (T.setTop (mkF m pc' Ls S))) : Go p e below G (T.setTop (mkF m pc Ls (.int y :: .int x :: S))) := by
  subst hp; exact Go.mono (fun t k => XS.icmpNo D.st.here D.ex rfl (hb D.cb hd) rfl hc k) hr
theorem g_ifY (D : Wk p l e R m args below meth c own bytes maxL Z I s' T locs cells slots h) (pc' : Nat) {cd : ClassFile.Cond} {x : Int32} {o : Int} (hd : decode bytes pc = .ok (.ifCond cd o, 3)) (hc : if_icmp.holds cd x 0 = true) (ho : 0 ≤ (pc : Int) + o) (hp : ((pc : Int) + o).toNat = pc') (hr : Go p e below G (T.setTop (mkF m pc' Ls S))) : Go p e below G (T.setTop (mkF m pc Ls (.int x :: S))) :=
  Go.mono (fun t k => XS.ifYes D.st.here D.ex rfl rfl (hb D.cb hd) rfl ((if0 _ _).trans hc) ho hp k) hr
theorem g_ifN (D : Wk p l e R m args below meth c own bytes maxL Z I s' T locs cells slots h) (pc' : Nat) {cd : ClassFile.Cond} {x : Int32} {o : Int} (hd : decode bytes pc = .ok (.ifCond cd o, 3)) (hc : if_icmp.holds cd x 0 = false) (hp : pc + 3 = pc') (hr : Go p e below G (T.setTop (mkF m pc' Ls S))) : Go p e below G (T.setTop (mkF m pc Ls (.int x :: S))) := by
  subst hp; exact Go.mono (fun t k => XS.ifNo D.st.here D.ex rfl (hb D.cb hd) rfl ((if0 _ _).trans hc) k) hr
theorem g_nullY (D : Wk p l e R m args below meth c own bytes maxL Z I s' T locs cells slots h) (pc' : Nat) {o : Int} (hd : decode bytes pc = .ok (.ifnull o, 3)) (ho : 0 ≤ (pc : Int) + o) (hp : ((pc : Int) + o).toNat = pc') (hr : Go p e below G (T.setTop (mkF m pc' Ls S))) : Go p e below G (T.setTop (mkF m pc Ls (.null :: S))) :=
  Go.mono (fun t k => XS.ifnullYes D.st.here D.ex rfl rfl (hb D.cb hd) rfl ho hp k) hr
theorem g_nullN (D : Wk p l e R m args below meth c own bytes maxL Z I s' T locs cells slots h) (pc' : Nat) {o : Int} {b : Addr} (hd : decode bytes pc = .ok (.ifnull o, 3)) (hp : pc + 3 = pc') (hr : Go p e below G (T.setTop (mkF m pc' Ls S))) : Go p e below G (T.setTop (mkF m pc Ls (.ref b :: S))) := by
  subst hp; exact Go.mono (fun t k => XS.ifnullNo D.st.here D.ex rfl (hb D.cb hd) rfl k) hr
theorem g_nnY (D : Wk p l e R m args below meth c own bytes maxL Z I s' T locs cells slots h) (pc' : Nat) {o : Int} {b : Addr} (hd : decode bytes pc = .ok (.ifnonnull o, 3)) (ho : 0 ≤ (pc : Int) + o) (hp : ((pc : Int) + o).toNat = pc') (hr : Go p e below G (T.setTop (mkF m pc' Ls S))) : Go p e below G (T.setTop (mkF m pc Ls (.ref b :: S))) :=
  Go.mono (fun t k => XS.ifnonnullYes D.st.here D.ex rfl rfl (hb D.cb hd) rfl ho hp k) hr
theorem g_nnN (D : Wk p l e R m args below meth c own bytes maxL Z I s' T locs cells slots h) (pc' : Nat) {o : Int} (hd : decode bytes pc = .ok (.ifnonnull o, 3)) (hp : pc + 3 = pc') (hr : Go p e below G (T.setTop (mkF m pc' Ls S))) : Go p e below G (T.setTop (mkF m pc Ls (.null :: S))) := by
  subst hp; exact Go.mono (fun t k => XS.ifnonnullNo D.st.here D.ex rfl (hb D.cb hd) rfl k) hr
theorem g_acmp (D : Wk p l e R m args below meth c own bytes maxL Z I s' T locs cells slots h) (pc' : Nat) {cd : ACond} {x y : Value} {o : Int} (hd : decode bytes pc = .ok (.if_acmp cd o, 3)) (h1 : x.isRef = true) (h2 : y.isRef = true) {same : Bool} (hq : decide (x = y) = same) (ho : 0 ≤ (pc : Int) + o) (hp : pc' = if acV cd same = true then ((pc : Int) + o).toNat else pc + 3) (hr : Go p e below G (T.setTop (mkF m pc' Ls S))) : Go p e below G (T.setTop (mkF m pc Ls (y :: x :: S))) :=
  Go.mono (fun t k => Jvm.RoadKit.acmp (g := mkF m pc Ls (y :: x :: S)) D.st D.ex rfl h1 h2 rfl (hb D.cb hd) rfl hq ho hp k) hr
theorem g_ldcI (D : Wk p l e R m args below meth c own bytes maxL Z I s' T locs cells slots h) (pc' : Nat) {index : Nat} {v : Int32} (w : (Cond.constant own index v).before a0 Z = true) (hd : decode bytes pc = .ok (.ldc index, 2)) (hp : pc + 2 = pc') (hr : Go p e below G (T.setTop (mkF m pc' Ls (.int v :: S)))) : Go p e below G (T.setTop (mkF m pc Ls S)) := by
  subst hp; exact Go.mono (fun t k => Jvm.Stand.ldcI D.st D.ex D.ow (mv D.wm w) rfl (hb D.cb hd) k) hr
theorem g_ldcWI (D : Wk p l e R m args below meth c own bytes maxL Z I s' T locs cells slots h) (pc' : Nat) {index : Nat} {v : Int32} (w : (Cond.constant own index v).before a0 Z = true) (hd : decode bytes pc = .ok (.ldc_w index, 3)) (hp : pc + 3 = pc') (hr : Go p e below G (T.setTop (mkF m pc' Ls (.int v :: S)))) : Go p e below G (T.setTop (mkF m pc Ls S)) := by
  subst hp; exact Go.mono (fun t k => Jvm.Stand.ldcWI D.st D.ex D.ow (mv D.wm w) rfl (hb D.cb hd) k) hr
theorem g_ldc2J (D : Wk p l e R m args below meth c own bytes maxL Z I s' T locs cells slots h) (pc' : Nat) {index : Nat} {v : Int64} (w : (Cond.constantLong own index v).before a0 Z = true) (hd : decode bytes pc = .ok (.ldc2_w index, 3)) (hp : pc + 3 = pc') (hr : Go p e below G (T.setTop (mkF m pc' Ls (.long v :: S)))) : Go p e below G (T.setTop (mkF m pc Ls S)) := by
  subst hp; exact Go.mono (fun t k => Jvm.Stand.ldc2J D.st D.ex D.ow (mv D.wm w) rfl (hb D.cb hd) k) hr
theorem g_getF (D : Wk p l e R m args below meth c own bytes maxL Z I s' T locs cells slots h) (pc' : Nat) {R0 O n d : String} {index : Nat} (w : (Cond.fieldLink own index R0 n d).before a0 Z = true) (via : Via Z R0 O n d) {a : Addr} {v : Value} (F : Fld Z h a O n d v) (hd : decode bytes pc = .ok (.getfield index, 3)) (hp : pc + 3 = pc')
    (hr : ∀ T', Wk p l e R m args below meth c own bytes maxL Z I s' T' locs cells slots h → Go p e below G (T'.setTop (mkF m pc' Ls (v :: S)))) : Go p e below G (T.setTop (mkF m pc Ls (.ref a :: S))) := by
  subst hp
  obtain ⟨T', X', e', st⟩ := getF D.st D.ex D.wm D.ow (host := "") (Or.inl w) via D.eq F (g := mkF m pc Ls (.ref a :: S)) rfl rfl (hb D.cb hd)
  exact Go.mono st (hr T' (D.mk' X' e' D.iv))
theorem g_getS (D : Wk p l e R m args below meth c own bytes maxL Z I s' T locs cells slots h) (pc' : Nat) {R0 O n d : String} {index : Nat} (w : (Cond.fieldLink own index R0 n d).before a0 Z = true) (via : Via Z R0 O n d) {v : Value} (F : Sta Z h O n d v) (hd : decode bytes pc = .ok (.getstatic index, 3)) (hp : pc + 3 = pc')
    (hr : ∀ T', Wk p l e R m args below meth c own bytes maxL Z I s' T' locs cells slots h → Go p e below G (T'.setTop (mkF m pc' Ls (v :: S)))) : Go p e below G (T.setTop (mkF m pc Ls S)) := by
  subst hp
  obtain ⟨T', X', e', st⟩ := getS (host := "") D.st D.ex D.wm D.ow w via D.eq F (g := mkF m pc Ls S) rfl (hb D.cb hd)
  exact Go.mono st (hr T' (D.mk' X' e' D.iv))
theorem g_putF (D : Wk p l e R m args below meth c own bytes maxL Z I s' T locs cells slots h) (pc' : Nat) {R0 O n d C : String} {index kk : Nat} {ty : FieldType} (w : (Cond.fieldLink own index R0 n d).before a0 Z = true) (via : Via Z R0 O n d) {a : Addr} {v old : Value} (F : Fld Z h a O n d old) (E : Exa Z h a C)
    (L : (Cond.lays C O n d).before a0 Z = true ∨ ((Cond.laysFinal C O n d).before a0 Z = true ∧ own = O ∧ meth.name = "<init>")) (wi : (Cond.instantiable C kk).before a0 Z = true) (hty : parseFieldDescriptor d = some ty) (hn : narrow ty v = v) (hf : fits ty v = true)
    (hI : ∀ h', Wr h h' a (RoadKit.slotOf Z O n d) v → I s' h') (hd : decode bytes pc = .ok (.putfield index, 3)) (hp : pc + 3 = pc')
    (hr : ∀ T' h', Wr h h' a (RoadKit.slotOf Z O n d) v → Wk p l e R m args below meth c own bytes maxL Z I s' T' (locs ++ [⟨a, RoadKit.slotOf Z O n d⟩]) cells slots h' → Go p e below G (T'.setTop (mkF m pc' Ls S))) : Go p e below G (T.setTop (mkF m pc Ls (v :: .ref a :: S))) := by
  subst hp
  obtain ⟨T', h', X', e', W', st⟩ := putF D.st D.ex D.wm D.ow (host := "") (Or.inl w) via D.eq F E L wi hty hn hf (g := mkF m pc Ls (v :: .ref a :: S)) rfl rfl (hb D.cb hd)
  exact Go.mono st (hr T' h' W' (D.mk' X' e' (hI h' W')))
theorem g_newO (D : Wk p l e R m args below meth c own bytes maxL Z I s' T locs cells slots h) (pc' : Nat) {C : String} {index n : Nat} (w : (Cond.classLink own index C).before a0 Z = true) (wi : (Cond.instantiable C n).before a0 Z = true) (wz : (Cond.initialized C).before a0 Z = true) (hd : decode bytes pc = .ok (.new index, 3)) (hc : cells + 1 ≤ R.cells) (hl : slots + n ≤ R.slots) (hI : ∀ h', Ext h h' → I s' h') (hp : pc + 3 = pc')
    (hr : ∀ T' h' a, a = h.size → Ext h h' → Exa Z h' a C → (∀ {O nm d : String} {ty : FieldType}, Laid Z a0 C O nm d → parseFieldDescriptor d = some ty → Fld Z h' a O nm d (defaultValue ty)) → Wk p l e R m args below meth c own bytes maxL Z I s' T' locs (cells + 1) (slots + n) h' → Go p e below G (T'.setTop (mkF m pc' Ls (.ref a :: S)))) : Go p e below G (T.setTop (mkF m pc Ls S)) := by
  subst hp
  obtain ⟨T', h', X', e', E', A', D', -, st⟩ := newO D.st D.ex D.wm D.ow w wi wz D.eq (g := mkF m pc Ls S) rfl (hb D.cb hd) hc hl
  exact Go.mono st (hr T' h' _ rfl E' A' D' (D.mk' X' e' (hI h' E')))
theorem g_newP (D : Wk p l e R m args below meth c own bytes maxL Z I s' T locs cells slots h) (pc' : Nat) {aty : ArrayType} (w : (Cond.arrayClass (newarray.typeOf aty)).before a0 Z = true) {n : Int32} (hd : decode bytes pc = .ok (.newarray aty, 2)) (hn : ¬ n < 0) {cap : Nat} (hcap : n.toNatClampNeg ≤ cap) (hb' : cap * 8 ≤ 536870912) (hc : cells + 1 ≤ R.cells) (hl : slots + cap ≤ R.slots) (hI : ∀ h', Ext h h' → I s' h') (hp : pc + 2 = pc')
    (hr : ∀ T' h' a k, a = h.size → Ext h h' → Arv Z h' a k (newarray.typeOf aty) n [] (defaultValue (newarray.typeOf aty)) → Wk p l e R m args below meth c own bytes maxL Z I s' T' locs (cells + 1) (slots + cap) h' → Go p e below G (T'.setTop (mkF m pc' Ls (.ref a :: S)))) : Go p e below G (T.setTop (mkF m pc Ls (.int n :: S))) := by
  subst hp
  obtain ⟨T', h', k, X', e', E', A', st⟩ := newP D.st D.ex D.wm w D.eq (g := mkF m pc Ls (.int n :: S)) rfl (hb D.cb hd) rfl hn hcap hb' hc hl
  exact Go.mono st (hr T' h' _ k rfl E' (Arv.new A' hn) (D.mk' X' e' (hI h' E')))
theorem g_castY (D : Wk p l e R m args below meth c own bytes maxL Z I s' T locs cells slots h) (pc' : Nat) {K : String} {index : Nat} (w : (Cond.classLink own index K).before a0 Z = true) {a : Addr} (F : Ins Z h a K true) (hd : decode bytes pc = .ok (.checkcast index, 3)) (hp : pc + 3 = pc')
    (hr : ∀ T', Wk p l e R m args below meth c own bytes maxL Z I s' T' locs cells slots h → Go p e below G (T'.setTop (mkF m pc' Ls (.ref a :: S)))) : Go p e below G (T.setTop (mkF m pc Ls (.ref a :: S))) := by
  subst hp
  obtain ⟨T', X', e', st⟩ := castY D.st D.ex D.wm D.ow w D.eq F (g := mkF m pc Ls (.ref a :: S)) rfl rfl (hb D.cb hd)
  exact Go.mono st (hr T' (D.mk' X' e' D.iv))
theorem g_instY (D : Wk p l e R m args below meth c own bytes maxL Z I s' T locs cells slots h) (pc' : Nat) {K : String} {index : Nat} (w : (Cond.classLink own index K).before a0 Z = true) {a : Addr} (F : Ins Z h a K true) (hd : decode bytes pc = .ok (.instanceof index, 3)) (hp : pc + 3 = pc')
    (hr : ∀ T', Wk p l e R m args below meth c own bytes maxL Z I s' T' locs cells slots h → Go p e below G (T'.setTop (mkF m pc' Ls (.int 1 :: S)))) : Go p e below G (T.setTop (mkF m pc Ls (.ref a :: S))) := by
  subst hp
  obtain ⟨T', X', e', st⟩ := instY D.st D.ex D.wm D.ow w D.eq F (g := mkF m pc Ls (.ref a :: S)) rfl rfl (hb D.cb hd)
  exact Go.mono st (hr T' (D.mk' X' e' D.iv))
theorem g_instNo (D : Wk p l e R m args below meth c own bytes maxL Z I s' T locs cells slots h) (pc' : Nat) {K C : String} {index : Nat} (w : (Cond.classLink own index K).before a0 Z = true) {a : Addr} (E : Exa Z h a C) (F : ∃ c t, Z.vm.findClass C = some c ∧ Z.vm.findClass K = some t ∧ Z.vm.assignable c t = false) (hd : decode bytes pc = .ok (.instanceof index, 3)) (hp : pc + 3 = pc')
    (hr : ∀ T', Wk p l e R m args below meth c own bytes maxL Z I s' T' locs cells slots h → Go p e below G (T'.setTop (mkF m pc' Ls (.int 0 :: S)))) : Go p e below G (T.setTop (mkF m pc Ls (.ref a :: S))) := by
  subst hp
  obtain ⟨T', X', e', st⟩ := instNo D.st D.ex D.wm D.ow w D.eq E F (g := mkF m pc Ls (.ref a :: S)) rfl rfl (hb D.cb hd)
  exact Go.mono st (hr T' (D.mk' X' e' D.iv))
theorem g_instNull (D : Wk p l e R m args below meth c own bytes maxL Z I s' T locs cells slots h) (pc' : Nat) {index : Nat} (hd : decode bytes pc = .ok (.instanceof index, 3)) (hp : pc + 3 = pc') (hr : Go p e below G (T.setTop (mkF m pc' Ls (.int 0 :: S)))) : Go p e below G (T.setTop (mkF m pc Ls (.null :: S))) := by
  subst hp
  exact Go.mono (fun t k => D.st.instanceofNull D.ex (g := mkF m pc Ls (.null :: S)) rfl rfl (hb D.cb hd) t k) hr
theorem g_alen (D : Wk p l e R m args below meth c own bytes maxL Z I s' T locs cells slots h) (pc' : Nat) {a : Addr} {k : ClassId} {ty : FieldType} {n : Int32} {vs : List Value} {d : Value} (V : Arv Z h a k ty n vs d) (hd : decode bytes pc = .ok (.arraylength, 1)) (hp : pc + 1 = pc') (hr : Go p e below G (T.setTop (mkF m pc' Ls (.int n :: S)))) : Go p e below G (T.setTop (mkF m pc Ls (.ref a :: S))) := by
  subst hp
  obtain ⟨cl, A, -, q, q', -⟩ := V
  refine Go.mono (fun t k => D.st.arraylength D.ex (by rw [D.eq]; exact A.1) (State.isArrayOf_alike D.wm.alike A.2.1) (g := mkF m pc Ls (.ref a :: S)) rfl rfl (hb D.cb hd) t k) ?_
  rw [len_of q q']; exact hr
theorem g_caload (D : Wk p l e R m args below meth c own bytes maxL Z I s' T locs cells slots h) (pc' : Nat) {a : Addr} {k : ClassId} {n j : Int32} {vs : List Value} {d v : Value} (V : Arv Z h a k .char n vs d) (hj : ¬ j < 0 ∧ j < n) (hv : vs.getD j.toNatClampNeg d = v) (hd : decode bytes pc = .ok (.caload, 1)) (hp : pc + 1 = pc') (hr : Go p e below G (T.setTop (mkF m pc' Ls (v :: S)))) : Go p e below G (T.setTop (mkF m pc Ls (.int j :: .ref a :: S))) := by
  subst hp
  obtain ⟨cl, A, -, q, q', H, -⟩ := V
  exact Go.mono (fun t k => D.st.caload D.ex (by rw [D.eq]; exact A.1) (State.isArrayOf_alike D.wm.alike A.2.1) A.2.2 (inb_of q hj) (H.at (inb_of q hj) hv) (g := mkF m pc Ls (.int j :: .ref a :: S)) rfl rfl (hb D.cb hd) t k) hr
theorem g_baload (D : Wk p l e R m args below meth c own bytes maxL Z I s' T locs cells slots h) (pc' : Nat) {a : Addr} {k : ClassId} {n j : Int32} {vs : List Value} {d v : Value} (V : Arv Z h a k .byte n vs d) (hj : ¬ j < 0 ∧ j < n) (hv : vs.getD j.toNatClampNeg d = v) (hd : decode bytes pc = .ok (.baload, 1)) (hp : pc + 1 = pc') (hr : Go p e below G (T.setTop (mkF m pc' Ls (v :: S)))) : Go p e below G (T.setTop (mkF m pc Ls (.int j :: .ref a :: S))) := by
  subst hp
  obtain ⟨cl, A, -, q, q', H, -⟩ := V
  exact Go.mono (fun t k => D.st.baloadBytes D.ex (by rw [D.eq]; exact A.1) (State.isArrayOf_alike D.wm.alike A.2.1) A.2.2 (inb_of q hj) (H.at (inb_of q hj) hv) (g := mkF m pc Ls (.int j :: .ref a :: S)) rfl rfl (hb D.cb hd) t k) hr
theorem g_iaload (D : Wk p l e R m args below meth c own bytes maxL Z I s' T locs cells slots h) (pc' : Nat) {a : Addr} {k : ClassId} {n j : Int32} {vs : List Value} {d v : Value} (V : Arv Z h a k .int n vs d) (hj : ¬ j < 0 ∧ j < n) (hv : vs.getD j.toNatClampNeg d = v) (hd : decode bytes pc = .ok (.iaload, 1)) (hp : pc + 1 = pc') (hr : Go p e below G (T.setTop (mkF m pc' Ls (v :: S)))) : Go p e below G (T.setTop (mkF m pc Ls (.int j :: .ref a :: S))) := by
  subst hp
  obtain ⟨cl, A, -, q, q', H, -⟩ := V
  exact Go.mono (fun t k => D.st.iaload D.ex (by rw [D.eq]; exact A.1) (State.isArrayOf_alike D.wm.alike A.2.1) A.2.2 (inb_of q hj) (H.at (inb_of q hj) hv) (g := mkF m pc Ls (.int j :: .ref a :: S)) rfl rfl (hb D.cb hd) t k) hr
theorem g_laload (D : Wk p l e R m args below meth c own bytes maxL Z I s' T locs cells slots h) (pc' : Nat) {a : Addr} {k : ClassId} {n j : Int32} {vs : List Value} {d v : Value} (V : Arv Z h a k .long n vs d) (hj : ¬ j < 0 ∧ j < n) (hv : vs.getD j.toNatClampNeg d = v) (hd : decode bytes pc = .ok (.laload, 1)) (hp : pc + 1 = pc') (hr : Go p e below G (T.setTop (mkF m pc' Ls (v :: S)))) : Go p e below G (T.setTop (mkF m pc Ls (.int j :: .ref a :: S))) := by
  subst hp
  obtain ⟨cl, A, -, q, q', H, -⟩ := V
  exact Go.mono (fun t k => D.st.laload D.ex (by rw [D.eq]; exact A.1) (State.isArrayOf_alike D.wm.alike A.2.1) A.2.2 (inb_of q hj) (H.at (inb_of q hj) hv) (g := mkF m pc Ls (.int j :: .ref a :: S)) rfl rfl (hb D.cb hd) t k) hr
theorem g_aaload (D : Wk p l e R m args below meth c own bytes maxL Z I s' T locs cells slots h) (pc' : Nat) {a : Addr} {k : ClassId} {n j : Int32} {ty : FieldType} {vs : List Value} {d v : Value} (V : Arv Z h a k ty n vs d) (hty : ty.isReference = true) (hj : ¬ j < 0 ∧ j < n) (hv : vs.getD j.toNatClampNeg d = v) (hd : decode bytes pc = .ok (.aaload, 1)) (hp : pc + 1 = pc') (hr : Go p e below G (T.setTop (mkF m pc' Ls (v :: S)))) : Go p e below G (T.setTop (mkF m pc Ls (.int j :: .ref a :: S))) := by
  subst hp
  obtain ⟨cl, A, -, q, q', H, -⟩ := V
  exact Go.mono (fun t k => D.st.aaload D.ex (by rw [D.eq]; exact A.1) (State.isArrayOf_alike D.wm.alike A.2.1) hty A.2.2 (inb_of q hj) (H.at (inb_of q hj) hv) (g := mkF m pc Ls (.int j :: .ref a :: S)) rfl rfl (hb D.cb hd) t k) hr
theorem g_castore (D : Wk p l e R m args below meth c own bytes maxL Z I s' T locs cells slots h) (pc' : Nat) {a : Addr} {k : ClassId} {n j : Int32} {x : Int32} {vs : List Value} {d : Value} (V : Arv Z h a k .char n vs d) (hj : ¬ j < 0 ∧ j < n) (i : Nat) (hi : j.toNatClampNeg = i) (hv : i < vs.length) (hI : ∀ h', Wr h h' a j.toNatClampNeg (.int (nar .char x)) → I s' h') (hd : decode bytes pc = .ok (.castore, 1)) (hp : pc + 1 = pc')
    (hr : ∀ T' h', Wr h h' a j.toNatClampNeg (.int (nar .char x)) → Arv Z h' a k .char n (vs.set i (.int (nar .char x))) d → Wk p l e R m args below meth c own bytes maxL Z I s' T' (locs ++ [⟨a, j.toNatClampNeg⟩]) cells slots h' → Go p e below G (T'.setTop (mkF m pc' Ls S))) : Go p e below G (T.setTop (mkF m pc Ls (.int x :: .int j :: .ref a :: S))) := by
  subst hp
  obtain ⟨cl, A, q1, q, q', H, F⟩ := V
  obtain ⟨T', h', X', e', W', st⟩ := stC D.st D.ex D.wm D.eq A (inb_of q hj) (g := mkF m pc Ls (.int x :: .int j :: .ref a :: S)) rfl rfl (hb D.cb hd)
  exact Go.mono st (hr T' h' W' (Arv.set A q1 q q' H F (fits_nar_char _) W' i hi hv) (D.mk' X' e' (hI h' W')))
theorem g_bastore (D : Wk p l e R m args below meth c own bytes maxL Z I s' T locs cells slots h) (pc' : Nat) {a : Addr} {k : ClassId} {n j : Int32} {x : Int32} {vs : List Value} {d : Value} (V : Arv Z h a k .byte n vs d) (hj : ¬ j < 0 ∧ j < n) (i : Nat) (hi : j.toNatClampNeg = i) (hv : i < vs.length) (hI : ∀ h', Wr h h' a j.toNatClampNeg (.int (nar .byte x)) → I s' h') (hd : decode bytes pc = .ok (.bastore, 1)) (hp : pc + 1 = pc')
    (hr : ∀ T' h', Wr h h' a j.toNatClampNeg (.int (nar .byte x)) → Arv Z h' a k .byte n (vs.set i (.int (nar .byte x))) d → Wk p l e R m args below meth c own bytes maxL Z I s' T' (locs ++ [⟨a, j.toNatClampNeg⟩]) cells slots h' → Go p e below G (T'.setTop (mkF m pc' Ls S))) : Go p e below G (T.setTop (mkF m pc Ls (.int x :: .int j :: .ref a :: S))) := by
  subst hp
  obtain ⟨cl, A, q1, q, q', H, F⟩ := V
  obtain ⟨T', h', X', e', W', st⟩ := stB D.st D.ex D.wm D.eq A (inb_of q hj) (g := mkF m pc Ls (.int x :: .int j :: .ref a :: S)) rfl rfl (hb D.cb hd)
  exact Go.mono st (hr T' h' W' (Arv.set A q1 q q' H F (fits_nar_byte _) W' i hi hv) (D.mk' X' e' (hI h' W')))
theorem g_iastore (D : Wk p l e R m args below meth c own bytes maxL Z I s' T locs cells slots h) (pc' : Nat) {a : Addr} {k : ClassId} {n j : Int32} {x : Int32} {vs : List Value} {d : Value} (V : Arv Z h a k .int n vs d) (hj : ¬ j < 0 ∧ j < n) (i : Nat) (hi : j.toNatClampNeg = i) (hv : i < vs.length) (hI : ∀ h', Wr h h' a j.toNatClampNeg (.int x) → I s' h') (hd : decode bytes pc = .ok (.iastore, 1)) (hp : pc + 1 = pc')
    (hr : ∀ T' h', Wr h h' a j.toNatClampNeg (.int x) → Arv Z h' a k .int n (vs.set i (.int x)) d → Wk p l e R m args below meth c own bytes maxL Z I s' T' (locs ++ [⟨a, j.toNatClampNeg⟩]) cells slots h' → Go p e below G (T'.setTop (mkF m pc' Ls S))) : Go p e below G (T.setTop (mkF m pc Ls (.int x :: .int j :: .ref a :: S))) := by
  subst hp
  obtain ⟨cl, A, q1, q, q', H, F⟩ := V
  obtain ⟨T', h', X', e', W', st⟩ := stI D.st D.ex D.wm D.eq A (inb_of q hj) (g := mkF m pc Ls (.int x :: .int j :: .ref a :: S)) rfl rfl (hb D.cb hd)
  exact Go.mono st (hr T' h' W' (Arv.set A q1 q q' H F rfl W' i hi hv) (D.mk' X' e' (hI h' W')))
theorem g_lastore (D : Wk p l e R m args below meth c own bytes maxL Z I s' T locs cells slots h) (pc' : Nat) {a : Addr} {k : ClassId} {n j : Int32} {x : Int64} {vs : List Value} {d : Value} (V : Arv Z h a k .long n vs d) (hj : ¬ j < 0 ∧ j < n) (i : Nat) (hi : j.toNatClampNeg = i) (hv : i < vs.length) (hI : ∀ h', Wr h h' a j.toNatClampNeg (.long x) → I s' h') (hd : decode bytes pc = .ok (.lastore, 1)) (hp : pc + 1 = pc')
    (hr : ∀ T' h', Wr h h' a j.toNatClampNeg (.long x) → Arv Z h' a k .long n (vs.set i (.long x)) d → Wk p l e R m args below meth c own bytes maxL Z I s' T' (locs ++ [⟨a, j.toNatClampNeg⟩]) cells slots h' → Go p e below G (T'.setTop (mkF m pc' Ls S))) : Go p e below G (T.setTop (mkF m pc Ls (.long x :: .int j :: .ref a :: S))) := by
  subst hp
  obtain ⟨cl, A, q1, q, q', H, F⟩ := V
  obtain ⟨T', h', X', e', W', st⟩ := stJ D.st D.ex D.wm D.eq A (inb_of q hj) (g := mkF m pc Ls (.long x :: .int j :: .ref a :: S)) rfl rfl (hb D.cb hd)
  exact Go.mono st (hr T' h' W' (Arv.set A q1 q q' H F rfl W' i hi hv) (D.mk' X' e' (hI h' W')))
theorem g_initO (D : Wk p l e R m args below meth c own bytes maxL Z I s' T locs cells slots h) (pc' : Nat) {idx : Nat} (w1 : (Cond.methodLink own idx Lib.objectInit).before a0 Z = true) (w2 : (Cond.instanceMethod Lib.objectInit).before a0 Z = true) (w3 : (Cond.code Lib.objectInit ⟨#[0xb1]⟩ 1 none).before a0 Z = true) (hsz : Ls.size = maxL) {a : Addr} (hd : decode bytes pc = .ok (.invokespecial idx, 3)) (hf : 1 ≤ R.frames) {W : Nat} (hW : (S.map fun v => v.category).sum ≤ W) (hl : W + 12 ≤ R.locals) (hp : pc + 3 = pc')
    (hr : ∀ T', Wk p l e R m args below meth c own bytes maxL Z I s' T' locs cells slots h → Go p e below G (T'.setTop (mkF m pc' Ls S))) : Go p e below G (T.setTop (mkF m pc Ls (.ref a :: S))) := by
  subst hp
  obtain ⟨T', X', e', st⟩ := initO D.st D.ex D.wm D.ow w1 w2 w3 D.eq (g := mkF m pc Ls (.ref a :: S)) rfl (by rw [D.ml]; exact hsz) rfl (hb D.cb hd) hf (W := W) (by simpa using hW) hl
  exact Go.mono st (hr T' (D.mk' X' e' D.iv))
theorem g_clone (D : Wk p l e R m args below meth c own bytes maxL Z I s' T locs cells slots h) (pc' : Nat) {ad : String} {index : Nat} (w1 : (Cond.methodLink own index ⟨ad, "clone", "()Ljava/lang/Object;"⟩).before a0 Z = true) (w2 : (Cond.sameMethod ad "java/lang/Object" "clone" "()Ljava/lang/Object;").before a0 Z = true) (w3 : (Cond.native ⟨"java/lang/Object", "clone", "()Ljava/lang/Object;"⟩).before a0 Z = true) (w4 : (Cond.instanceMethod ⟨"java/lang/Object", "clone", "()Ljava/lang/Object;"⟩).before a0 Z = true) (w5 : (Cond.selects ad ⟨ad, "clone", "()Ljava/lang/Object;"⟩ ⟨"java/lang/Object", "clone", "()Ljava/lang/Object;"⟩).before a0 Z = true) (w6 : (Cond.castable ad "java/lang/Cloneable").before a0 Z = true)
    {a : Addr} {k : ClassId} {ty : FieldType} {z : Int32} {vs : List Value} {dv : Value} (F : Arv Z h a k ty z vs dv) (E : Exa Z h a ad) (hsz : Ls.size = maxL) (hd : decode bytes pc = .ok (.invokevirtual index, 3)) (hf : 1 ≤ R.frames) {W cap : Nat} (hW : (S.map fun v => v.category).sum ≤ W) (hl : W + 14 ≤ R.locals) (hcap : z.toNatClampNeg ≤ cap) (hc : cells + 1 ≤ R.cells) (hsl : slots + cap ≤ R.slots) (hI : ∀ h', Ext h h' → I s' h') (hp : pc + 3 = pc')
    (hr : ∀ T' h' b, b = h.size → Ext h h' → Arv Z h' b k ty z vs dv → Exa Z h' b ad → Wk p l e R m args below meth c own bytes maxL Z I s' T' locs (cells + 1) (slots + cap) h' → Go p e below G (T'.setTop (mkF m pc' Ls (.ref b :: S)))) : Go p e below G (T.setTop (mkF m pc Ls (.ref a :: S))) := by
  subst hp
  obtain ⟨T', h', X', e', E', A', B', st⟩ := cloneH D.st D.ex D.wm D.ow w1 w2 w3 w4 w5 w6 D.eq F.arh E (g := mkF m pc Ls (.ref a :: S)) rfl (by rw [D.ml]; exact hsz) rfl (hb D.cb hd) hf (by simpa using hW) hl hcap hc hsl
  exact Go.mono st (hr T' h' _ rfl E' A' B' (D.mk' X' e' (hI h' E')))
theorem g_callS (D : Wk p l e R m args below meth c own bytes maxL Z I s' T locs cells slots h) (pc' : Nat) {index : Nat} {y : MethodName} {bz : ByteArray} {mL : Nat} {ret' : Option FieldType} {W ck sk : Nat} {as' : Array Value} {Q : Option Value → Heap → List Loc → Prop} (w1 : (Cond.methodLink own index y).before a0 Z = true) (w2 : (Cond.static y).before a0 Z = true) (w3 : (Cond.initialized y.cls).before a0 Z = true) (w4 : (Cond.code y bz mL ret').before a0 Z = true) (hy : y.cls ≠ "java/lang/invoke/MethodHandle" ∧ y.cls ≠ "java/lang/invoke/VarHandle")
    (K : Back l R p e below s' args y 3 W (fun A a => a = as' ∧ A.U.heap = h ∧ A.cells + ck ≤ R.cells ∧ A.slots + sk ≤ R.slots) (fun A _ v B => ∃ L, Q v B.U.heap L ∧ B.locs = A.locs ++ L ∧ B.cells = A.cells + ck ∧ B.slots = A.slots + sk)) (hsz : Ls.size = maxL) (argsL : List Value) (has : argsL.toArray = as') (hlen : ∀ sig, parseMethodDescriptor y.desc = some sig → argsL.length = sig.parameters.length) {S0 : List Value} (hst : S0 = argsL.reverse ++ S) (hW : (S.map fun v => v.category).sum ≤ W) (hc : cells + ck ≤ R.cells) (hl : slots + sk ≤ R.slots) (hI : ∀ v h' L, Q v h' L → I s' h') (hd : decode bytes pc = .ok (.invokestatic index, 3)) (hp : pc + 3 = pc')
    (hr : ∀ v T' h' L, Q v h' L → Wk p l e R m args below meth c own bytes maxL Z I s' T' (locs ++ L) (cells + ck) (slots + sk) h' → Go p e below G (T'.setTop (mkF m pc' Ls (v.toList ++ S)))) : Go p e below G (T.setTop (mkF m pc Ls S0)) := by
  subst hp hst
  obtain ⟨v, _, ⟨T', L', k', n'⟩, -, X', ⟨L, hQ, l', y', z'⟩, st⟩ := Jvm.LawKit.callS D.st D.ex D.ow (mvT D.wm w1) (mvT D.wm w2) (mvT D.wm w3) (mvT D.wm w4) hy K (g := mkF m pc Ls (argsL.reverse ++ S)) rfl (by rw [D.ml]; exact hsz) (argsL := argsL) (rest := S) hlen rfl (by simpa using hW) (hb D.cb hd) (fun _ _ => ⟨has, D.eq, hc, hl⟩)
  dsimp only at X' l' y' z' st hQ
  subst l' y' z'
  exact Go.mono st (hr v T' _ L hQ (D.mk' X' rfl (hI v _ L hQ)))
theorem g_callV (D : Wk p l e R m args below meth c own bytes maxL Z I s' T locs cells slots h) (pc' : Nat) {index : Nat} {y z : MethodName} {C : String} {W ck sk : Nat} {as' : Array Value} {Q : Option Value → Heap → List Loc → Prop} (w1 : (Cond.methodLink own index y).before a0 Z = true) (w2 : (Cond.declares y).before a0 Z = true) (w3 : (Cond.selects y.cls y y).before a0 Z = true) (w4 : (Cond.selects C y z).before a0 Z = true) (w5 : (Cond.instanceMethod z).before a0 Z = true) (hy : y.cls ≠ "java/lang/invoke/MethodHandle" ∧ y.cls ≠ "java/lang/invoke/VarHandle")
    (K : Back l R p e below s' args z 3 W (fun A a => a = as' ∧ A.U.heap = h ∧ A.cells + ck ≤ R.cells ∧ A.slots + sk ≤ R.slots) (fun A _ v B => ∃ L, Q v B.U.heap L ∧ B.locs = A.locs ++ L ∧ B.cells = A.cells + ck ∧ B.slots = A.slots + sk)) {b : Addr} (E : Exa Z h b C) (hsz : Ls.size = maxL) (argsL : List Value) (has : (.ref b :: argsL).toArray = as') (hlen : ∀ sig, parseMethodDescriptor y.desc = some sig → argsL.length = sig.parameters.length) {S0 : List Value} (hst : S0 = argsL.reverse ++ .ref b :: S) (hW : (S.map fun v => v.category).sum ≤ W) (hc : cells + ck ≤ R.cells) (hl : slots + sk ≤ R.slots) (hI : ∀ v h' L, Q v h' L → I s' h') (hd : decode bytes pc = .ok (.invokevirtual index, 3)) (hp : pc + 3 = pc')
    (hr : ∀ v T' h' L, Q v h' L → Wk p l e R m args below meth c own bytes maxL Z I s' T' (locs ++ L) (cells + ck) (slots + sk) h' → Go p e below G (T'.setTop (mkF m pc' Ls (v.toList ++ S)))) : Go p e below G (T.setTop (mkF m pc Ls S0)) := by
  subst hp hst
  obtain ⟨cq, kq, qa, qb, qc⟩ := isOf D.wm D.eq E
  obtain ⟨v, _, ⟨T', L', k', n'⟩, -, X', ⟨L, hQ, l', y', z'⟩, st⟩ := D.st.virtualBack D.ex (y := y) (z := z) D.ow (mvT D.wm w1) (mvT D.wm w2) (notFace_of_selects (args := #[]) (mvT D.wm w3)) (mvT D.wm w4) (mvT D.wm w5) hy K qa qc (g := mkF m pc Ls (argsL.reverse ++ .ref b :: S)) rfl (by rw [D.ml]; exact hsz) (Steps.refl _) (argsL := argsL) (rest := S) hlen rfl (by simpa using hW) (hb D.cb hd) (fun _ _ => ⟨has, D.eq, hc, hl⟩)
  dsimp only at X' l' y' z' st hQ
  subst l' y' z'
  exact Go.mono (fun t k => st.trans k) (hr v T' _ L hQ (D.mk' X' rfl (hI v _ L hQ)))
theorem g_callN (D : Wk p l e R m args below meth c own bytes maxL Z I s' T locs cells slots h) (pc' : Nat) {index : Nat} {y : MethodName} {bz : ByteArray} {mL : Nat} {W ck sk : Nat} {as' : Array Value} {Q : Option Value → Heap → List Loc → Prop} (hy1 : y.name = "<init>") (w1 : (Cond.methodLink own index y).before a0 Z = true) (w2 : (Cond.instanceMethod y).before a0 Z = true) (w3 : (Cond.code y bz mL none).before a0 Z = true) (hy : y.cls ≠ "java/lang/invoke/MethodHandle" ∧ y.cls ≠ "java/lang/invoke/VarHandle")
    (K : Back l R p e below s' args y 3 W (fun A a => a = as' ∧ A.U.heap = h ∧ A.cells + ck ≤ R.cells ∧ A.slots + sk ≤ R.slots) (fun A _ v B => ∃ L, Q v B.U.heap L ∧ B.locs = A.locs ++ L ∧ B.cells = A.cells + ck ∧ B.slots = A.slots + sk)) {b : Addr} (hsz : Ls.size = maxL) (argsL : List Value) (has : (.ref b :: argsL).toArray = as') (hlen : ∀ sig, parseMethodDescriptor y.desc = some sig → argsL.length = sig.parameters.length) {S0 : List Value} (hst : S0 = argsL.reverse ++ .ref b :: S) (hW : (S.map fun v => v.category).sum ≤ W) (hc : cells + ck ≤ R.cells) (hl : slots + sk ≤ R.slots) (hI : ∀ v h' L, Q v h' L → I s' h') (hd : decode bytes pc = .ok (.invokespecial index, 3)) (hp : pc + 3 = pc')
    (hr : ∀ v T' h' L, Q v h' L → Wk p l e R m args below meth c own bytes maxL Z I s' T' (locs ++ L) (cells + ck) (slots + sk) h' → Go p e below G (T'.setTop (mkF m pc' Ls (v.toList ++ S)))) : Go p e below G (T.setTop (mkF m pc Ls S0)) := by
  subst hp hst
  obtain ⟨v, _, ⟨T', L', k', n'⟩, -, X', ⟨L, hQ, l', y', z'⟩, st⟩ := D.st.specialBack D.ex (y := y) hy1 D.ow (mvT D.wm w1) (mvT D.wm w2) (mvT D.wm w3) hy K (g := mkF m pc Ls (argsL.reverse ++ .ref b :: S)) rfl (by rw [D.ml]; exact hsz) (Steps.refl _) (a := b) (argsL := argsL) (rest := S) hlen rfl (by simpa using hW) (hb D.cb hd) (fun _ _ => ⟨has, D.eq, hc, hl⟩)
  dsimp only at X' l' y' z' st hQ
  subst l' y' z'
  exact Go.mono (fun t k => st.trans k) (hr v T' _ L hQ (D.mk' X' rfl (hI v _ L hQ)))
theorem g_callNN (D : Wk p l e R m args below meth c own bytes maxL Z I s' T locs cells slots h) (pc' : Nat) {index : Nat} {host : String} {y : MethodName} {bz : ByteArray} {mL : Nat} {W ck sk : Nat} {as' : Array Value} {Q : Option Value → Heap → List Loc → Prop} (hy1 : y.name = "<init>") (w1 : (Cond.methodLinkNest own index y host).before a0 Z = true) (w2 : (Cond.instanceMethod y).before a0 Z = true) (w3 : (Cond.code y bz mL none).before a0 Z = true) (hy : y.cls ≠ "java/lang/invoke/MethodHandle" ∧ y.cls ≠ "java/lang/invoke/VarHandle")
    (K : Back l R p e below s' args y 3 W (fun A a => a = as' ∧ A.U.heap = h ∧ A.cells + ck ≤ R.cells ∧ A.slots + sk ≤ R.slots) (fun A _ v B => ∃ L, Q v B.U.heap L ∧ B.locs = A.locs ++ L ∧ B.cells = A.cells + ck ∧ B.slots = A.slots + sk)) {b : Addr} (hsz : Ls.size = maxL) (argsL : List Value) (has : (.ref b :: argsL).toArray = as') (hlen : ∀ sig, parseMethodDescriptor y.desc = some sig → argsL.length = sig.parameters.length) {S0 : List Value} (hst : S0 = argsL.reverse ++ .ref b :: S) (hW : (S.map fun v => v.category).sum ≤ W) (hc : cells + ck ≤ R.cells) (hl : slots + sk ≤ R.slots) (hI : ∀ v h' L, Q v h' L → I s' h') (hd : decode bytes pc = .ok (.invokespecial index, 3)) (hp : pc + 3 = pc')
    (hr : ∀ v T' h' L, Q v h' L → Wk p l e R m args below meth c own bytes maxL Z I s' T' (locs ++ L) (cells + ck) (slots + sk) h' → Go p e below G (T'.setTop (mkF m pc' Ls (v.toList ++ S)))) : Go p e below G (T.setTop (mkF m pc Ls S0)) := by
  subst hp hst
  obtain ⟨v, _, ⟨T', L', k', n'⟩, -, X', ⟨L, hQ, l', y', z'⟩, st⟩ := D.st.specialBackNest D.ex (y := y) hy1 D.ow (Cond.methodLinkNest_wide D.wm w1 :) (mvT D.wm w2) (mvT D.wm w3) hy K (g := mkF m pc Ls (argsL.reverse ++ .ref b :: S)) rfl (by rw [D.ml]; exact hsz) (Steps.refl _) (a := b) (argsL := argsL) (rest := S) hlen rfl (by simpa using hW) (hb D.cb hd) (fun _ _ => ⟨has, D.eq, hc, hl⟩)
  dsimp only at X' l' y' z' st hQ
  subst l' y' z'
  exact Go.mono (fun t k => st.trans k) (hr v T' _ L hQ (D.mk' X' rfl (hI v _ L hQ)))
theorem g_newPE (D : Wk p l e R m args below meth c own bytes maxL Z I s' T locs cells slots h) (pc' : Nat) {aty : ArrayType} (w : (Cond.arrayClass (newarray.typeOf aty)).before a0 Z = true) {n : Int32} (hd : decode bytes pc = .ok (.newarray aty, 2)) (hn : ¬ n < 0) {cap : Nat} (hcap : n.toNatClampNeg ≤ cap) (hb' : cap * 8 ≤ 536870912) (hc : cells + 1 ≤ R.cells) (hl : slots + cap ≤ R.slots) {ad : String} (had : "[" ++ (newarray.typeOf aty).toString = ad) (hI : ∀ h', Ext h h' → I s' h') (hp : pc + 2 = pc')
    (hr : ∀ T' h' a k, a = h.size → Ext h h' → Arv Z h' a k (newarray.typeOf aty) n [] (defaultValue (newarray.typeOf aty)) → Exa Z h' a ad → Wk p l e R m args below meth c own bytes maxL Z I s' T' locs (cells + 1) (slots + cap) h' → Go p e below G (T'.setTop (mkF m pc' Ls (.ref a :: S)))) : Go p e below G (T.setTop (mkF m pc Ls (.int n :: S))) := by
  subst hp
  obtain ⟨T', h', k, X', e', E', A', B', st⟩ := newPE D.st D.ex D.wm w D.eq (g := mkF m pc Ls (.int n :: S)) rfl (hb D.cb hd) rfl hn hcap hb' hc hl had
  exact Go.mono st (hr T' h' _ k rfl E' (Arv.new A' hn) B' (D.mk' X' e' (hI h' E')))
theorem g_cpA (D : Wk p l e R m args below meth c own bytes maxL Z I s' T locs cells slots h) (pc' : Nat) {index : Nat} (w1 : (Cond.methodLink own index Jvm.Stand.acN).before a0 Z = true) (w2 : (Cond.native Jvm.Stand.acN).before a0 Z = true) (w3 : (Cond.static Jvm.Stand.acN).before a0 Z = true) (w4 : (Cond.initialized "java/lang/System").before a0 Z = true) {a b : Addr} {k k' : ClassId} {ty : FieldType} {z z' sp dp nn : Int32} {vs vd : List Value} {dv dd : Value} (us : List Value) (A : Arv Z h a k ty z vs dv) (B : Arv Z h b k' ty z' vd dd) (hty : refKind ty = false)
    (h1 : ¬ sp < 0) (h2 : ¬ dp < 0) (h3 : ¬ nn < 0) (h4 : sp.toNatClampNeg + nn.toNatClampNeg ≤ z.toNatClampNeg) (h5 : dp.toNatClampNeg + nn.toNatClampNeg ≤ z'.toNatClampNeg) (hus : us = (List.range nn.toNatClampNeg).map fun i => vs.getD (sp.toNatClampNeg + i) dv) (hl : dp.toNatClampNeg + nn.toNatClampNeg ≤ vd.length) {n0 : Nat} (N : Fr n0 locs) (ge : n0 ≤ b) (hsz : Ls.size = maxL) (hd : decode bytes pc = .ok (.invokestatic index, 3)) (hf : 1 ≤ R.frames) {W : Nat} (hW : (S.map fun v => v.category).sum ≤ W) (hlo : W + (nativeFrameWords "java/lang/System" "arraycopy" 5 + 11) ≤ R.locals) (hI : ∀ h', Keep h h' [b] → I s' h') (hp : pc + 3 = pc')
    (hr : ∀ T' h' L, Fr n0 L → Keep h h' [b] → Arv Z h' b k' ty z' (vd.take dp.toNatClampNeg ++ us ++ vd.drop (dp.toNatClampNeg + nn.toNatClampNeg)) dd → Wk p l e R m args below meth c own bytes maxL Z I s' T' L cells slots h' → Go p e below G (T'.setTop (mkF m pc' Ls S))) : Go p e below G (T.setTop (mkF m pc Ls (.int nn :: .int dp :: .ref b :: .int sp :: .ref a :: S))) := by
  subst hp
  obtain ⟨T', h', L, X', e', N', K', A', st⟩ := cpA D.st D.ex D.wm D.ow w1 w2 w3 w4 D.eq A B (Or.inl ⟨rfl, hty⟩) h1 h2 h3 h4 h5 hus hl N ge (g := mkF m pc Ls (.int nn :: .int dp :: .ref b :: .int sp :: .ref a :: S)) rfl (by rw [D.ml]; exact hsz) rfl (hb D.cb hd) hf (by simpa using hW) hlo
  exact Go.mono st (hr T' h' L N' K' A' (D.mk' X' e' (hI h' K')))
theorem g_callSp (D : Wk p l e R m args below meth c own bytes maxL Z I s' T locs cells slots h) (pc' : Nat) {index : Nat} {y : MethodName} {bz : ByteArray} {mL : Nat} {ret' : Option FieldType} {W ck sk : Nat} {as' : Array Value} {Pv : Option Value → Prop} (w1 : (Cond.methodLink own index y).before a0 Z = true) (w2 : (Cond.static y).before a0 Z = true) (w3 : (Cond.initialized y.cls).before a0 Z = true) (w4 : (Cond.code y bz mL ret').before a0 Z = true) (hy : y.cls ≠ "java/lang/invoke/MethodHandle" ∧ y.cls ≠ "java/lang/invoke/VarHandle")
    (K : Back l R p e below s' args y 3 W (fun A a => a = as' ∧ A.U.heap = h ∧ A.cells + ck ≤ R.cells ∧ A.slots + sk ≤ R.slots) (fun A _ v B => ∃ L, (Pv v ∧ L = [] ∧ B.U.heap = h) ∧ B.locs = A.locs ++ L ∧ B.cells = A.cells + ck ∧ B.slots = A.slots + sk)) (hsz : Ls.size = maxL) (argsL : List Value) (has : argsL.toArray = as') (hlen : ∀ sig, parseMethodDescriptor y.desc = some sig → argsL.length = sig.parameters.length) {S0 : List Value} (hst : S0 = argsL.reverse ++ S) (hW : (S.map fun v => v.category).sum ≤ W) (hc : cells + ck ≤ R.cells) (hl : slots + sk ≤ R.slots) (hd : decode bytes pc = .ok (.invokestatic index, 3)) (hp : pc + 3 = pc')
    (hr : ∀ v T', Pv v → Wk p l e R m args below meth c own bytes maxL Z I s' T' locs (cells + ck) (slots + sk) h → Go p e below G (T'.setTop (mkF m pc' Ls (v.toList ++ S)))) : Go p e below G (T.setTop (mkF m pc Ls S0)) := by
  refine g_callS D pc' (Q := fun v h' L => Pv v ∧ L = [] ∧ h' = h) w1 w2 w3 w4 hy K hsz argsL has hlen hst hW hc hl (fun v h' L q => q.2.2 ▸ D.iv) hd hp ?_
  intro v T' h' L q D'
  obtain ⟨q1, q2, q3⟩ := q
  subst q2 q3
  rw [List.append_nil] at D'
  exact hr v T' q1 D'
theorem g_callVp (D : Wk p l e R m args below meth c own bytes maxL Z I s' T locs cells slots h) (pc' : Nat) {index : Nat} {y z : MethodName} {C : String} {W ck sk : Nat} {as' : Array Value} {Pv : Option Value → Prop} (w1 : (Cond.methodLink own index y).before a0 Z = true) (w2 : (Cond.declares y).before a0 Z = true) (w3 : (Cond.selects y.cls y y).before a0 Z = true) (w4 : (Cond.selects C y z).before a0 Z = true) (w5 : (Cond.instanceMethod z).before a0 Z = true) (hy : y.cls ≠ "java/lang/invoke/MethodHandle" ∧ y.cls ≠ "java/lang/invoke/VarHandle")
    (K : Back l R p e below s' args z 3 W (fun A a => a = as' ∧ A.U.heap = h ∧ A.cells + ck ≤ R.cells ∧ A.slots + sk ≤ R.slots) (fun A _ v B => ∃ L, (Pv v ∧ L = [] ∧ B.U.heap = h) ∧ B.locs = A.locs ++ L ∧ B.cells = A.cells + ck ∧ B.slots = A.slots + sk)) {b : Addr} (E : Exa Z h b C) (hsz : Ls.size = maxL) (argsL : List Value) (has : (.ref b :: argsL).toArray = as') (hlen : ∀ sig, parseMethodDescriptor y.desc = some sig → argsL.length = sig.parameters.length) {S0 : List Value} (hst : S0 = argsL.reverse ++ .ref b :: S) (hW : (S.map fun v => v.category).sum ≤ W) (hc : cells + ck ≤ R.cells) (hl : slots + sk ≤ R.slots) (hd : decode bytes pc = .ok (.invokevirtual index, 3)) (hp : pc + 3 = pc')
    (hr : ∀ v T', Pv v → Wk p l e R m args below meth c own bytes maxL Z I s' T' locs (cells + ck) (slots + sk) h → Go p e below G (T'.setTop (mkF m pc' Ls (v.toList ++ S)))) : Go p e below G (T.setTop (mkF m pc Ls S0)) := by
  refine g_callV D pc' (Q := fun v h' L => Pv v ∧ L = [] ∧ h' = h) w1 w2 w3 w4 w5 hy K E hsz argsL has hlen hst hW hc hl (fun v h' L q => q.2.2 ▸ D.iv) hd hp ?_
  intro v T' h' L q D'
  obtain ⟨q1, q2, q3⟩ := q
  subst q2 q3
  rw [List.append_nil] at D'
  exact hr v T' q1 D'
theorem clt_t {x y : Int64} (h : x < y) : XT.cmpL x y < 0 := by have := Int64.lt_iff_toInt_lt.mp h; unfold XT.cmpL; split <;> (try split) <;> simp_all [Int64.lt_iff_toInt_lt, ← Int64.toInt_inj] <;> omega
theorem clt_f {x y : Int64} (h : ¬ x < y) : ¬ XT.cmpL x y < 0 := by unfold XT.cmpL; split <;> (try split) <;> simp_all [Int64.lt_iff_toInt_lt, ← Int64.toInt_inj] <;> omega
theorem cgt_t {x y : Int64} (h : y < x) : 0 < XT.cmpL x y := by unfold XT.cmpL; split <;> (try split) <;> simp_all [Int64.lt_iff_toInt_lt, ← Int64.toInt_inj] <;> omega
theorem cgt_f {x y : Int64} (h : ¬ y < x) : ¬ 0 < XT.cmpL x y := by unfold XT.cmpL; split <;> (try split) <;> simp_all [Int64.lt_iff_toInt_lt, ← Int64.toInt_inj] <;> omega
theorem ceq_t {x y : Int64} (h : x = y) : XT.cmpL x y = 0 := by unfold XT.cmpL; split <;> (try split) <;> simp_all [Int64.lt_iff_toInt_lt, ← Int64.toInt_inj] <;> omega
theorem ceq_f {x y : Int64} (h : ¬ x = y) : ¬ XT.cmpL x y = 0 := by unfold XT.cmpL; split <;> (try split) <;> simp_all [Int64.lt_iff_toInt_lt, ← Int64.toInt_inj] <;> omega
/-- the invariant of a walk that loads no literal -/
def NI : State → Heap → Prop := fun _ _ => True
/-- what a walk that loads no literal ends in -/
def NG (s : State) (Q : Option Value → Heap → List Loc → Prop) (ck sk : Nat) : Outcome → State → Prop := fun o U' => ∃ v L, o = .returned v ∧ Q v U'.heap L ∧ FrameEnd s o U' L ck sk
variable {Q : Option Value → Heap → List Loc → Prop} {ck sk : Nat}
theorem r_gen (D : Wk p l e R m args below meth c own bytes maxL Z I s' T locs cells slots h) {v : Option Value} (hv : meth.sig.returnType = none → v = none) (hlk : meth.locks = false) (hst : ∀ fs, (∀ (f : JFrame) (acts : List Action), f.method = m → f.locked = none → f.entered = [] → (doReturn e (T.setTop f) acts v).1 = T.setFrames fs) → Steps p.tables e below (T.setTop (mkF m pc Ls S)) (T.setFrames fs)) (hQ : Q v h locs) (hc : cells ≤ ck) (hs : slots ≤ sk) : Go p e below (NG s' Q ck sk) (T.setTop (mkF m pc Ls S)) := by
  obtain ⟨fs, hr, hrun, hended, hW, hsame⟩ := D.st.leave (v := v) hv hlk
  refine ⟨_, _, hst fs hr, hrun, hended, _, _, rfl, ?_, ⟨_, rfl⟩, hW, hsame.mono hc hs⟩
  show Q v T.heap locs
  rw [D.eq]; exact hQ
theorem r_I (D : Wk p l e R m args below meth c own bytes maxL Z I s' T locs cells slots h) {z : Int32} (hret : meth.sig.returnType = some .int) (hlk : meth.locks = false) (hd : decode bytes pc = .ok (.ireturn, 1)) (hQ : Q (some (.int z)) h locs) (hc : cells ≤ ck) (hs : slots ≤ sk) : Go p e below (NG s' Q ck sk) (T.setTop (mkF m pc Ls (.int z :: S))) :=
  r_gen D (fun h => by rw [hret] at h; cases h) hlk (fun fs hr => retOut D.st D.ex hret rfl (Or.inl ⟨rfl, Or.inl rfl, _, rfl⟩) (hb D.cb hd) hr) hQ hc hs
theorem r_N (D : Wk p l e R m args below meth c own bytes maxL Z I s' T locs cells slots h) {t : FieldType} {z : Int32} (hret : meth.sig.returnType = some t) (ht : t = .boolean ∨ t = .byte ∨ t = .char ∨ t = .short) (hlk : meth.locks = false) (hd : decode bytes pc = .ok (.ireturn, 1)) (hQ : Q (some (.int (nar t z))) h locs) (hc : cells ≤ ck) (hs : slots ≤ sk) : Go p e below (NG s' Q ck sk) (T.setTop (mkF m pc Ls (.int z :: S))) :=
  r_gen D (fun h => by rw [hret] at h; cases h) hlk (fun fs hr => retN D.st D.ex hret ht (hb D.cb hd) hr) hQ hc hs
theorem r_A (D : Wk p l e R m args below meth c own bytes maxL Z I s' T locs cells slots h) {t : FieldType} {w : Value} (hret : meth.sig.returnType = some t) (ht : t.isReference = true) (hw : w.isRef = true) (hlk : meth.locks = false) (hd : decode bytes pc = .ok (.areturn, 1)) (hQ : Q (some w) h locs) (hc : cells ≤ ck) (hs : slots ≤ sk) : Go p e below (NG s' Q ck sk) (T.setTop (mkF m pc Ls (w :: S))) :=
  r_gen D (fun h => by rw [hret] at h; cases h) hlk (fun fs hr => retOut D.st D.ex hret (by cases t <;> first | (cases ht; done) | rfl) (Or.inr (Or.inr (Or.inr (Or.inr ⟨rfl, ht, hw⟩)))) (hb D.cb hd) hr) hQ hc hs
theorem r_J (D : Wk p l e R m args below meth c own bytes maxL Z I s' T locs cells slots h) {z : Int64} (hret : meth.sig.returnType = some .long) (hlk : meth.locks = false) (hd : decode bytes pc = .ok (.lreturn, 1)) (hQ : Q (some (.long z)) h locs) (hc : cells ≤ ck) (hs : slots ≤ sk) : Go p e below (NG s' Q ck sk) (T.setTop (mkF m pc Ls (.long z :: S))) :=
  r_gen D (fun h => by rw [hret] at h; cases h) hlk (fun fs hr => retOut D.st D.ex hret rfl (Or.inr (Or.inl ⟨rfl, rfl, _, rfl⟩)) (hb D.cb hd) hr) hQ hc hs
theorem r_V (D : Wk p l e R m args below meth c own bytes maxL Z I s' T locs cells slots h) (hret : meth.sig.returnType = none) (hlk : meth.locks = false) (hd : decode bytes pc = .ok (.return_, 1)) (hQ : Q none h locs) (hc : cells ≤ ck) (hs : slots ≤ sk) : Go p e below (NG s' Q ck sk) (T.setTop (mkF m pc Ls [])) :=
  r_gen D (fun _ => rfl) hlk (fun fs hr => D.st.returnOut D.ex hret (hb D.cb hd) hr) hQ hc hs
end Walk
/-- a contract: called with these arguments at this heap it returns, and Q tells what it leaves -/
abbrev Con (l : Launch) (y : MethodName) (bytes : ByteArray) (maxL : Nat) (ret : Option FieldType) (ws : List Jvm.Cond) (rm : Room) (Z : State) (as' : Array Value) (h0 : Heap) (Q : Option Value → Heap → List Loc → Prop) (ck sk : Nat) : Prop :=
  MetFree l y (head1 (Jvm.Cond.code y bytes maxL ret :: ws) rm) (fun a U => a = as' ∧ Z.Warmed39 U.vm ∧ U.heap = h0) (fun _ _ _ _ _ => True) (fun _ U o U' => ∃ v L, o = .returned v ∧ Q v U'.heap L ∧ FrameEnd U o U' L ck sk)
theorem enter {l : Launch} {y : MethodName} {bytes : ByteArray} {maxL : Nat} {ret : Option FieldType} {ws : List Jvm.Cond} {rm : Room} {Z : State} {as' : Array Value} {h0 : Heap} {Q : Option Value → Heap → List Loc → Prop} {ck sk : Nat} (hpl : plainFor y = true)
    (k : ∀ p e s m below meth c s₁, meth.name = y.name → meth.sig.returnType = ret → meth.locks = false → Wk p l e rm m as' below meth c y.cls bytes maxL Z NI s s₁ [] 0 0 h0 → Go p e below (NG s Q ck sk) (s₁.setTop (entryFrame m as' maxL))) :
    Con l y bytes maxL ret ws rm Z as' h0 Q ck sk := by
  refine MetFree.of_bodySF hpl hisR ?_
  intro p e s m args below meth c s₁ Bd hml0 hP hK
  obtain ⟨rfl, hZ, hh⟩ := hP
  have X0 : Stand p l e rm s m _ below meth c s₁ [] 0 0 := Stand.of_body Bd
  exact k p e s m below meth c s₁ (name_of_methodNamed Bd.named Bd.method).1 Bd.returns Bd.notSynchronized ⟨X0, by rw [← hh, Bd.state]; rfl, hZ, findClass_of_methodNamed Bd.named, Bd.exec, Bd.bytes, hml0, trivial⟩
theorem Con.back {l : Launch} {y : MethodName} {bytes : ByteArray} {maxL : Nat} {ret : Option FieldType} {rm : Room} {Z : State} {as' : Array Value} {h0 : Heap} {Q : Option Value → Heap → List Loc → Prop} (hM : Con l y bytes maxL ret [] rm Z as' h0 Q rm.cells rm.slots) {p : Program} {e : Env} {R : Room} {m : MethodId} {args : Array Value} {below : List Frame} {meth : Method} {c : Code} {own : String} {bz : ByteArray} {mL : Nat} {I : State → Heap → Prop} {s' T : State} {locs : List Loc} {cells slots : Nat} {h : Heap} {a0 : Array Value}
    (D : Wk p l e R m args below meth c own bz mL Z I s' T locs cells slots h) (W : Nat) {len : Nat} (wc : (Cond.code y bytes maxL ret).before a0 Z = true) (wz : (Cond.initialized y.cls).before a0 Z = true) (hf : rm.frames + 1 ≤ R.frames) (hl : W + (maxL + 11) + rm.locals ≤ R.locals) :
    Back l R p e below s' args y len W (fun A a => a = as' ∧ A.U.heap = h0 ∧ A.cells + rm.cells ≤ R.cells ∧ A.slots + rm.slots ≤ R.slots) (fun A _ v B => ∃ L, Q v B.U.heap L ∧ B.locs = A.locs ++ L ∧ B.cells = A.cells + rm.cells ∧ B.slots = A.slots + rm.slots) :=
  backOf hM D.wm wc wz hf hl
theorem w_0 : (Jvm.Cond.methodLink "com/example/twelfths/twelfths/grid/BuilderAddPinLaw" (7 : Nat) ({ cls := "java/lang/Math", name := "min", desc := "(JJ)J" } : Jvm.MethodName)) ∈ tables_1 := List.mem_of_getElem? (i := 0) rfl
theorem w_1 : (Jvm.Cond.static ({ cls := "java/lang/Math", name := "min", desc := "(JJ)J" } : Jvm.MethodName)) ∈ tables_1 := List.mem_of_getElem? (i := 1) rfl
theorem w_2 : (Jvm.Cond.initialized "java/lang/Math") ∈ tables_1 := List.mem_of_getElem? (i := 2) rfl
theorem w_3 : (Jvm.Cond.code ({ cls := "java/lang/Math", name := "min", desc := "(JJ)J" } : Jvm.MethodName) jdk_29_method_70_code (4 : Nat) (Option.some Jvm.ClassFile.FieldType.long)) ∈ tables_1 := List.mem_of_getElem? (i := 3) rfl
theorem w_4 : (Jvm.Cond.methodLink "com/example/twelfths/twelfths/grid/BuilderAddPinLaw" (13 : Nat) ({ cls := "java/lang/Math", name := "max", desc := "(JJ)J" } : Jvm.MethodName)) ∈ tables_1 := List.mem_of_getElem? (i := 4) rfl
theorem w_5 : (Jvm.Cond.static ({ cls := "java/lang/Math", name := "max", desc := "(JJ)J" } : Jvm.MethodName)) ∈ tables_1 := List.mem_of_getElem? (i := 5) rfl
theorem w_6 : (Jvm.Cond.code ({ cls := "java/lang/Math", name := "max", desc := "(JJ)J" } : Jvm.MethodName) jdk_29_method_66_code (4 : Nat) (Option.some Jvm.ClassFile.FieldType.long)) ∈ tables_1 := List.mem_of_getElem? (i := 6) rfl
theorem w_7 : (Jvm.Cond.classLink "com/example/twelfths/twelfths/grid/BuilderAddPinLaw" (16 : Nat) "com/example/twelfths/twelfths/grid/HourSet$Builder") ∈ tables_1 := List.mem_of_getElem? (i := 7) rfl
theorem w_8 : (Jvm.Cond.instantiable "com/example/twelfths/twelfths/grid/HourSet$Builder" (3 : Nat)) ∈ tables_1 := List.mem_of_getElem? (i := 8) rfl
theorem w_9 : (Jvm.Cond.initialized "com/example/twelfths/twelfths/grid/HourSet$Builder") ∈ tables_1 := List.mem_of_getElem? (i := 9) rfl
theorem w_10 : (Jvm.Cond.methodLink "com/example/twelfths/twelfths/grid/BuilderAddPinLaw" (18 : Nat) ({ cls := "com/example/twelfths/twelfths/grid/HourSet$Builder", name := "<init>", desc := "()V" } : Jvm.MethodName)) ∈ tables_1 := List.mem_of_getElem? (i := 10) rfl
theorem w_11 : (Jvm.Cond.instanceMethod ({ cls := "com/example/twelfths/twelfths/grid/HourSet$Builder", name := "<init>", desc := "()V" } : Jvm.MethodName)) ∈ tables_1 := List.mem_of_getElem? (i := 11) rfl
theorem w_12 : (Jvm.Cond.code ({ cls := "com/example/twelfths/twelfths/grid/HourSet$Builder", name := "<init>", desc := "()V" } : Jvm.MethodName) prog_16_method_1_code (1 : Nat) (Option.none : Option Jvm.ClassFile.FieldType)) ∈ tables_1 := List.mem_of_getElem? (i := 12) rfl
theorem w_13 : (Jvm.Cond.methodLink "com/example/twelfths/twelfths/grid/HourSet$Builder" (1 : Nat) ({ cls := "java/lang/Object", name := "<init>", desc := "()V" } : Jvm.MethodName)) ∈ tables_1 := List.mem_of_getElem? (i := 13) rfl
theorem w_14 : (Jvm.Cond.instanceMethod ({ cls := "java/lang/Object", name := "<init>", desc := "()V" } : Jvm.MethodName)) ∈ tables_1 := List.mem_of_getElem? (i := 14) rfl
theorem w_15 : (Jvm.Cond.code ({ cls := "java/lang/Object", name := "<init>", desc := "()V" } : Jvm.MethodName) object_method_1_code (1 : Nat) (Option.none : Option Jvm.ClassFile.FieldType)) ∈ tables_1 := List.mem_of_getElem? (i := 15) rfl
theorem w_16 : (Jvm.Cond.arrayClass Jvm.ClassFile.FieldType.long) ∈ tables_1 := List.mem_of_getElem? (i := 16) rfl
theorem w_17 : (Jvm.Cond.fieldLink "com/example/twelfths/twelfths/grid/HourSet$Builder" (7 : Nat) "com/example/twelfths/twelfths/grid/HourSet$Builder" "firsts" "[J") ∈ tables_1 := List.mem_of_getElem? (i := 17) rfl
theorem w_18 : (Jvm.Cond.lays "com/example/twelfths/twelfths/grid/HourSet$Builder" "com/example/twelfths/twelfths/grid/HourSet$Builder" "firsts" "[J") ∈ tables_1 := List.mem_of_getElem? (i := 18) rfl
theorem w_19 : (Jvm.Cond.fieldLink "com/example/twelfths/twelfths/grid/HourSet$Builder" (13 : Nat) "com/example/twelfths/twelfths/grid/HourSet$Builder" "ends" "[J") ∈ tables_1 := List.mem_of_getElem? (i := 19) rfl
theorem w_20 : (Jvm.Cond.lays "com/example/twelfths/twelfths/grid/HourSet$Builder" "com/example/twelfths/twelfths/grid/HourSet$Builder" "ends" "[J") ∈ tables_1 := List.mem_of_getElem? (i := 20) rfl
theorem w_21 : (Jvm.Cond.methodLink "com/example/twelfths/twelfths/grid/BuilderAddPinLaw" (19 : Nat) ({ cls := "com/example/twelfths/twelfths/grid/HourSet$Builder", name := "add", desc := "(JJ)Lcom/example/twelfths/twelfths/grid/HourSet$Builder;" } : Jvm.MethodName)) ∈ tables_1 := List.mem_of_getElem? (i := 21) rfl
theorem w_22 : (Jvm.Cond.declares ({ cls := "com/example/twelfths/twelfths/grid/HourSet$Builder", name := "add", desc := "(JJ)Lcom/example/twelfths/twelfths/grid/HourSet$Builder;" } : Jvm.MethodName)) ∈ tables_1 := List.mem_of_getElem? (i := 22) rfl
theorem w_23 : (Jvm.Cond.instanceMethod ({ cls := "com/example/twelfths/twelfths/grid/HourSet$Builder", name := "add", desc := "(JJ)Lcom/example/twelfths/twelfths/grid/HourSet$Builder;" } : Jvm.MethodName)) ∈ tables_1 := List.mem_of_getElem? (i := 23) rfl
theorem w_24 : (Jvm.Cond.selects "com/example/twelfths/twelfths/grid/HourSet$Builder" ({ cls := "com/example/twelfths/twelfths/grid/HourSet$Builder", name := "add", desc := "(JJ)Lcom/example/twelfths/twelfths/grid/HourSet$Builder;" } : Jvm.MethodName) ({ cls := "com/example/twelfths/twelfths/grid/HourSet$Builder", name := "add", desc := "(JJ)Lcom/example/twelfths/twelfths/grid/HourSet$Builder;" } : Jvm.MethodName)) ∈ tables_1 := List.mem_of_getElem? (i := 24) rfl
theorem w_25 : (Jvm.Cond.code ({ cls := "com/example/twelfths/twelfths/grid/HourSet$Builder", name := "add", desc := "(JJ)Lcom/example/twelfths/twelfths/grid/HourSet$Builder;" } : Jvm.MethodName) prog_16_method_2_code (5 : Nat) (Option.some (Jvm.ClassFile.FieldType.object "com/example/twelfths/twelfths/grid/HourSet$Builder"))) ∈ tables_1 := List.mem_of_getElem? (i := 25) rfl
theorem w_26 : (Jvm.Cond.fieldLink "com/example/twelfths/twelfths/grid/HourSet$Builder" (25 : Nat) "com/example/twelfths/twelfths/grid/HourSet$Builder" "size" "I") ∈ tables_1 := List.mem_of_getElem? (i := 26) rfl
theorem w_27 : (Jvm.Cond.lays "com/example/twelfths/twelfths/grid/HourSet$Builder" "com/example/twelfths/twelfths/grid/HourSet$Builder" "size" "I") ∈ tables_1 := List.mem_of_getElem? (i := 27) rfl
theorem w_28 : (Jvm.Cond.methodLink "com/example/twelfths/twelfths/grid/BuilderAddPinLaw" (23 : Nat) ({ cls := "com/example/twelfths/twelfths/grid/HourSet$Builder", name := "build", desc := "()Lcom/example/twelfths/twelfths/grid/HourSet;" } : Jvm.MethodName)) ∈ tables_1 := List.mem_of_getElem? (i := 28) rfl
theorem w_29 : (Jvm.Cond.declares ({ cls := "com/example/twelfths/twelfths/grid/HourSet$Builder", name := "build", desc := "()Lcom/example/twelfths/twelfths/grid/HourSet;" } : Jvm.MethodName)) ∈ tables_1 := List.mem_of_getElem? (i := 29) rfl
theorem w_30 : (Jvm.Cond.instanceMethod ({ cls := "com/example/twelfths/twelfths/grid/HourSet$Builder", name := "build", desc := "()Lcom/example/twelfths/twelfths/grid/HourSet;" } : Jvm.MethodName)) ∈ tables_1 := List.mem_of_getElem? (i := 30) rfl
theorem w_31 : (Jvm.Cond.selects "com/example/twelfths/twelfths/grid/HourSet$Builder" ({ cls := "com/example/twelfths/twelfths/grid/HourSet$Builder", name := "build", desc := "()Lcom/example/twelfths/twelfths/grid/HourSet;" } : Jvm.MethodName) ({ cls := "com/example/twelfths/twelfths/grid/HourSet$Builder", name := "build", desc := "()Lcom/example/twelfths/twelfths/grid/HourSet;" } : Jvm.MethodName)) ∈ tables_1 := List.mem_of_getElem? (i := 31) rfl
theorem w_32 : (Jvm.Cond.code ({ cls := "com/example/twelfths/twelfths/grid/HourSet$Builder", name := "build", desc := "()Lcom/example/twelfths/twelfths/grid/HourSet;" } : Jvm.MethodName) prog_16_method_3_code (9 : Nat) (Option.some (Jvm.ClassFile.FieldType.object "com/example/twelfths/twelfths/grid/HourSet"))) ∈ tables_1 := List.mem_of_getElem? (i := 32) rfl
theorem w_33 : (Jvm.Cond.methodLink "com/example/twelfths/twelfths/grid/HourSet$Builder" (29 : Nat) ({ cls := "java/util/Arrays", name := "copyOf", desc := "([JI)[J" } : Jvm.MethodName)) ∈ tables_1 := List.mem_of_getElem? (i := 33) rfl
theorem w_34 : (Jvm.Cond.static ({ cls := "java/util/Arrays", name := "copyOf", desc := "([JI)[J" } : Jvm.MethodName)) ∈ tables_1 := List.mem_of_getElem? (i := 34) rfl
theorem w_35 : (Jvm.Cond.initialized "java/util/Arrays") ∈ tables_1 := List.mem_of_getElem? (i := 35) rfl
theorem w_36 : (Jvm.Cond.code ({ cls := "java/util/Arrays", name := "copyOf", desc := "([JI)[J" } : Jvm.MethodName) jdk_65_method_124_code (3 : Nat) (Option.some (Jvm.ClassFile.FieldType.array Jvm.ClassFile.FieldType.long))) ∈ tables_1 := List.mem_of_getElem? (i := 36) rfl
theorem w_37 : (Jvm.Cond.methodLink "java/util/Arrays" (304 : Nat) ({ cls := "java/lang/Math", name := "min", desc := "(II)I" } : Jvm.MethodName)) ∈ tables_1 := List.mem_of_getElem? (i := 37) rfl
theorem w_38 : (Jvm.Cond.static ({ cls := "java/lang/Math", name := "min", desc := "(II)I" } : Jvm.MethodName)) ∈ tables_1 := List.mem_of_getElem? (i := 38) rfl
theorem w_39 : (Jvm.Cond.code ({ cls := "java/lang/Math", name := "min", desc := "(II)I" } : Jvm.MethodName) jdk_29_method_69_code (2 : Nat) (Option.some Jvm.ClassFile.FieldType.int)) ∈ tables_1 := List.mem_of_getElem? (i := 39) rfl
theorem w_40 : (Jvm.Cond.methodLink "java/util/Arrays" (150 : Nat) ({ cls := "java/lang/System", name := "arraycopy", desc := "(Ljava/lang/Object;ILjava/lang/Object;II)V" } : Jvm.MethodName)) ∈ tables_1 := List.mem_of_getElem? (i := 40) rfl
theorem w_41 : (Jvm.Cond.static ({ cls := "java/lang/System", name := "arraycopy", desc := "(Ljava/lang/Object;ILjava/lang/Object;II)V" } : Jvm.MethodName)) ∈ tables_1 := List.mem_of_getElem? (i := 41) rfl
theorem w_42 : (Jvm.Cond.initialized "java/lang/System") ∈ tables_1 := List.mem_of_getElem? (i := 42) rfl
theorem w_43 : (Jvm.Cond.native ({ cls := "java/lang/System", name := "arraycopy", desc := "(Ljava/lang/Object;ILjava/lang/Object;II)V" } : Jvm.MethodName)) ∈ tables_1 := List.mem_of_getElem? (i := 43) rfl
theorem w_44 : (Jvm.Cond.methodLink "com/example/twelfths/twelfths/grid/HourSet$Builder" (35 : Nat) ({ cls := "java/util/Arrays", name := "sort", desc := "([J)V" } : Jvm.MethodName)) ∈ tables_1 := List.mem_of_getElem? (i := 44) rfl
theorem w_45 : (Jvm.Cond.static ({ cls := "java/util/Arrays", name := "sort", desc := "([J)V" } : Jvm.MethodName)) ∈ tables_1 := List.mem_of_getElem? (i := 45) rfl
theorem w_46 : (Jvm.Cond.code ({ cls := "java/util/Arrays", name := "sort", desc := "([J)V" } : Jvm.MethodName) jdk_65_method_4_code (1 : Nat) (Option.none : Option Jvm.ClassFile.FieldType)) ∈ tables_1 := List.mem_of_getElem? (i := 46) rfl
theorem w_47 : (Jvm.Cond.methodLink "java/util/Arrays" (19 : Nat) ({ cls := "java/util/DualPivotQuicksort", name := "sort", desc := "([JIII)V" } : Jvm.MethodName)) ∈ tables_1 := List.mem_of_getElem? (i := 47) rfl
theorem w_48 : (Jvm.Cond.static ({ cls := "java/util/DualPivotQuicksort", name := "sort", desc := "([JIII)V" } : Jvm.MethodName)) ∈ tables_1 := List.mem_of_getElem? (i := 48) rfl
theorem w_49 : (Jvm.Cond.initialized "java/util/DualPivotQuicksort") ∈ tables_1 := List.mem_of_getElem? (i := 49) rfl
theorem w_50 : (Jvm.Cond.code ({ cls := "java/util/DualPivotQuicksort", name := "sort", desc := "([JIII)V" } : Jvm.MethodName) jdk_2529_method_12_code (7 : Nat) (Option.none : Option Jvm.ClassFile.FieldType)) ∈ tables_1 := List.mem_of_getElem? (i := 50) rfl
theorem w_51 : (Jvm.Cond.methodLink "java/util/DualPivotQuicksort" (99 : Nat) ({ cls := "java/util/DualPivotQuicksort", name := "sort", desc := "(Ljava/util/DualPivotQuicksort$Sorter;[JIII)V" } : Jvm.MethodName)) ∈ tables_1 := List.mem_of_getElem? (i := 51) rfl
theorem w_52 : (Jvm.Cond.static ({ cls := "java/util/DualPivotQuicksort", name := "sort", desc := "(Ljava/util/DualPivotQuicksort$Sorter;[JIII)V" } : Jvm.MethodName)) ∈ tables_1 := List.mem_of_getElem? (i := 52) rfl
theorem w_53 : (Jvm.Cond.code ({ cls := "java/util/DualPivotQuicksort", name := "sort", desc := "(Ljava/util/DualPivotQuicksort$Sorter;[JIII)V" } : Jvm.MethodName) jdk_2529_method_13_code (25 : Nat) (Option.none : Option Jvm.ClassFile.FieldType)) ∈ tables_1 := List.mem_of_getElem? (i := 53) rfl
theorem w_54 : (Jvm.Cond.methodLink "java/util/DualPivotQuicksort" (105 : Nat) ({ cls := "java/util/DualPivotQuicksort", name := "insertionSort", desc := "([JII)V" } : Jvm.MethodName)) ∈ tables_1 := List.mem_of_getElem? (i := 54) rfl
theorem w_55 : (Jvm.Cond.static ({ cls := "java/util/DualPivotQuicksort", name := "insertionSort", desc := "([JII)V" } : Jvm.MethodName)) ∈ tables_1 := List.mem_of_getElem? (i := 55) rfl
theorem w_56 : (Jvm.Cond.code ({ cls := "java/util/DualPivotQuicksort", name := "insertionSort", desc := "([JII)V" } : Jvm.MethodName) jdk_2529_method_15_code (7 : Nat) (Option.none : Option Jvm.ClassFile.FieldType)) ∈ tables_1 := List.mem_of_getElem? (i := 56) rfl
theorem w_57 : (Jvm.Cond.classLink "com/example/twelfths/twelfths/grid/HourSet$Builder" (39 : Nat) "com/example/twelfths/twelfths/grid/HourSet") ∈ tables_1 := List.mem_of_getElem? (i := 57) rfl
theorem w_58 : (Jvm.Cond.instantiable "com/example/twelfths/twelfths/grid/HourSet" (2 : Nat)) ∈ tables_1 := List.mem_of_getElem? (i := 58) rfl
theorem w_59 : (Jvm.Cond.initialized "com/example/twelfths/twelfths/grid/HourSet") ∈ tables_1 := List.mem_of_getElem? (i := 59) rfl
theorem w_60 : (Jvm.Cond.methodLinkNest "com/example/twelfths/twelfths/grid/HourSet$Builder" (41 : Nat) ({ cls := "com/example/twelfths/twelfths/grid/HourSet", name := "<init>", desc := "([J[J)V" } : Jvm.MethodName) "com/example/twelfths/twelfths/grid/HourSet") ∈ tables_1 := List.mem_of_getElem? (i := 60) rfl
theorem w_61 : (Jvm.Cond.instanceMethod ({ cls := "com/example/twelfths/twelfths/grid/HourSet", name := "<init>", desc := "([J[J)V" } : Jvm.MethodName)) ∈ tables_1 := List.mem_of_getElem? (i := 61) rfl
theorem w_62 : (Jvm.Cond.code ({ cls := "com/example/twelfths/twelfths/grid/HourSet", name := "<init>", desc := "([J[J)V" } : Jvm.MethodName) prog_15_method_1_code (3 : Nat) (Option.none : Option Jvm.ClassFile.FieldType)) ∈ tables_1 := List.mem_of_getElem? (i := 62) rfl
theorem w_63 : (Jvm.Cond.methodLink "com/example/twelfths/twelfths/grid/HourSet" (1 : Nat) ({ cls := "java/lang/Object", name := "<init>", desc := "()V" } : Jvm.MethodName)) ∈ tables_1 := List.mem_of_getElem? (i := 63) rfl
theorem w_64 : (Jvm.Cond.fieldLink "com/example/twelfths/twelfths/grid/HourSet" (7 : Nat) "com/example/twelfths/twelfths/grid/HourSet" "firsts" "[J") ∈ tables_1 := List.mem_of_getElem? (i := 64) rfl
theorem w_65 : (Jvm.Cond.laysFinal "com/example/twelfths/twelfths/grid/HourSet" "com/example/twelfths/twelfths/grid/HourSet" "firsts" "[J") ∈ tables_1 := List.mem_of_getElem? (i := 65) rfl
theorem w_66 : (Jvm.Cond.fieldLink "com/example/twelfths/twelfths/grid/HourSet" (13 : Nat) "com/example/twelfths/twelfths/grid/HourSet" "ends" "[J") ∈ tables_1 := List.mem_of_getElem? (i := 66) rfl
theorem w_67 : (Jvm.Cond.laysFinal "com/example/twelfths/twelfths/grid/HourSet" "com/example/twelfths/twelfths/grid/HourSet" "ends" "[J") ∈ tables_1 := List.mem_of_getElem? (i := 67) rfl
theorem w_68 : (Jvm.Cond.methodLink "com/example/twelfths/twelfths/grid/BuilderAddPinLaw" (27 : Nat) ({ cls := "com/example/twelfths/twelfths/grid/BuilderAddPinLaw", name := "in", desc := "(JJJ)Z" } : Jvm.MethodName)) ∈ tables_1 := List.mem_of_getElem? (i := 68) rfl
theorem w_69 : (Jvm.Cond.static ({ cls := "com/example/twelfths/twelfths/grid/BuilderAddPinLaw", name := "in", desc := "(JJJ)Z" } : Jvm.MethodName)) ∈ tables_1 := List.mem_of_getElem? (i := 69) rfl
theorem w_70 : (Jvm.Cond.initialized "com/example/twelfths/twelfths/grid/BuilderAddPinLaw") ∈ tables_1 := List.mem_of_getElem? (i := 70) rfl
theorem w_71 : (Jvm.Cond.code ({ cls := "com/example/twelfths/twelfths/grid/BuilderAddPinLaw", name := "in", desc := "(JJJ)Z" } : Jvm.MethodName) method_2_code (6 : Nat) (Option.some Jvm.ClassFile.FieldType.boolean)) ∈ tables_1 := List.mem_of_getElem? (i := 71) rfl
theorem w_72 : (Jvm.Cond.methodLink "com/example/twelfths/twelfths/grid/BuilderAddPinLaw" (33 : Nat) ({ cls := "com/example/twelfths/twelfths/grid/HourSet", name := "contains", desc := "(J)Z" } : Jvm.MethodName)) ∈ tables_1 := List.mem_of_getElem? (i := 72) rfl
theorem w_73 : (Jvm.Cond.declares ({ cls := "com/example/twelfths/twelfths/grid/HourSet", name := "contains", desc := "(J)Z" } : Jvm.MethodName)) ∈ tables_1 := List.mem_of_getElem? (i := 73) rfl
theorem w_74 : (Jvm.Cond.instanceMethod ({ cls := "com/example/twelfths/twelfths/grid/HourSet", name := "contains", desc := "(J)Z" } : Jvm.MethodName)) ∈ tables_1 := List.mem_of_getElem? (i := 74) rfl
theorem w_75 : (Jvm.Cond.selects "com/example/twelfths/twelfths/grid/HourSet" ({ cls := "com/example/twelfths/twelfths/grid/HourSet", name := "contains", desc := "(J)Z" } : Jvm.MethodName) ({ cls := "com/example/twelfths/twelfths/grid/HourSet", name := "contains", desc := "(J)Z" } : Jvm.MethodName)) ∈ tables_1 := List.mem_of_getElem? (i := 75) rfl
theorem w_76 : (Jvm.Cond.code ({ cls := "com/example/twelfths/twelfths/grid/HourSet", name := "contains", desc := "(J)Z" } : Jvm.MethodName) prog_15_method_2_code (5 : Nat) (Option.some Jvm.ClassFile.FieldType.boolean)) ∈ tables_1 := List.mem_of_getElem? (i := 76) rfl
theorem w_77 : (Jvm.Cond.methodLink "com/example/twelfths/twelfths/grid/HourSet" (16 : Nat) ({ cls := "java/util/Arrays", name := "binarySearch", desc := "([JJ)I" } : Jvm.MethodName)) ∈ tables_1 := List.mem_of_getElem? (i := 77) rfl
theorem w_78 : (Jvm.Cond.static ({ cls := "java/util/Arrays", name := "binarySearch", desc := "([JJ)I" } : Jvm.MethodName)) ∈ tables_1 := List.mem_of_getElem? (i := 78) rfl
theorem w_79 : (Jvm.Cond.code ({ cls := "java/util/Arrays", name := "binarySearch", desc := "([JJ)I" } : Jvm.MethodName) jdk_65_method_54_code (3 : Nat) (Option.some Jvm.ClassFile.FieldType.int)) ∈ tables_1 := List.mem_of_getElem? (i := 79) rfl
theorem w_80 : (Jvm.Cond.methodLink "java/util/Arrays" (205 : Nat) ({ cls := "java/util/Arrays", name := "binarySearch0", desc := "([JIIJ)I" } : Jvm.MethodName)) ∈ tables_1 := List.mem_of_getElem? (i := 80) rfl
theorem w_81 : (Jvm.Cond.static ({ cls := "java/util/Arrays", name := "binarySearch0", desc := "([JIIJ)I" } : Jvm.MethodName)) ∈ tables_1 := List.mem_of_getElem? (i := 81) rfl
theorem w_82 : (Jvm.Cond.code ({ cls := "java/util/Arrays", name := "binarySearch0", desc := "([JIIJ)I" } : Jvm.MethodName) jdk_65_method_56_code (10 : Nat) (Option.some Jvm.ClassFile.FieldType.int)) ∈ tables_1 := List.mem_of_getElem? (i := 82) rfl
theorem w_83 : (Jvm.Cond.methodLink "java/util/Arrays" (319 : Nat) ({ cls := "[J", name := "clone", desc := "()Ljava/lang/Object;" } : Jvm.MethodName)) ∈ tables_1 := List.mem_of_getElem? (i := 83) rfl
theorem w_84 : (Jvm.Cond.sameMethod "[J" "java/lang/Object" "clone" "()Ljava/lang/Object;") ∈ tables_1 := List.mem_of_getElem? (i := 84) rfl
theorem w_86 : (Jvm.Cond.instanceMethod ({ cls := "java/lang/Object", name := "clone", desc := "()Ljava/lang/Object;" } : Jvm.MethodName)) ∈ tables_1 := List.mem_of_getElem? (i := 86) rfl
theorem w_87 : (Jvm.Cond.selects "[J" ({ cls := "[J", name := "clone", desc := "()Ljava/lang/Object;" } : Jvm.MethodName) ({ cls := "java/lang/Object", name := "clone", desc := "()Ljava/lang/Object;" } : Jvm.MethodName)) ∈ tables_1 := List.mem_of_getElem? (i := 87) rfl
theorem w_88 : (Jvm.Cond.native ({ cls := "java/lang/Object", name := "clone", desc := "()Ljava/lang/Object;" } : Jvm.MethodName)) ∈ tables_1 := List.mem_of_getElem? (i := 88) rfl
theorem w_89 : (Jvm.Cond.castable "[J" "java/lang/Cloneable") ∈ tables_1 := List.mem_of_getElem? (i := 89) rfl
theorem w_90 : (Jvm.Cond.classLink "java/util/Arrays" (320 : Nat) "[J") ∈ tables_1 := List.mem_of_getElem? (i := 90) rfl
theorem d_jdk_29m70_0 : decode jdk_29_method_70_code 0 = .ok (.lload_n 0, 1) := by decide +kernel
theorem d_jdk_29m70_1 : decode jdk_29_method_70_code 1 = .ok (.lload_n 2, 1) := by decide +kernel
theorem d_jdk_29m70_2 : decode jdk_29_method_70_code 2 = .ok (.lcmp, 1) := by decide +kernel
theorem d_jdk_29m70_3 : decode jdk_29_method_70_code 3 = .ok (.ifCond .gt 7, 3) := by decide +kernel
theorem d_jdk_29m70_10 : decode jdk_29_method_70_code 10 = .ok (.lload_n 2, 1) := by decide +kernel
theorem d_jdk_29m70_11 : decode jdk_29_method_70_code 11 = .ok (.lreturn, 1) := by decide +kernel
theorem d_jdk_29m70_6 : decode jdk_29_method_70_code 6 = .ok (.lload_n 0, 1) := by decide +kernel
theorem d_jdk_29m70_7 : decode jdk_29_method_70_code 7 = .ok (.goto 4, 3) := by decide +kernel
theorem d_jdk_29m66_0 : decode jdk_29_method_66_code 0 = .ok (.lload_n 0, 1) := by decide +kernel
theorem d_jdk_29m66_1 : decode jdk_29_method_66_code 1 = .ok (.lload_n 2, 1) := by decide +kernel
theorem d_jdk_29m66_2 : decode jdk_29_method_66_code 2 = .ok (.lcmp, 1) := by decide +kernel
theorem d_jdk_29m66_3 : decode jdk_29_method_66_code 3 = .ok (.ifCond .lt 7, 3) := by decide +kernel
theorem d_jdk_29m66_10 : decode jdk_29_method_66_code 10 = .ok (.lload_n 2, 1) := by decide +kernel
theorem d_jdk_29m66_11 : decode jdk_29_method_66_code 11 = .ok (.lreturn, 1) := by decide +kernel
theorem d_jdk_29m66_6 : decode jdk_29_method_66_code 6 = .ok (.lload_n 0, 1) := by decide +kernel
theorem d_jdk_29m66_7 : decode jdk_29_method_66_code 7 = .ok (.goto 4, 3) := by decide +kernel
theorem d_jdk_29m69_0 : decode jdk_29_method_69_code 0 = .ok (.iload_n 0, 1) := by decide +kernel
theorem d_jdk_29m69_1 : decode jdk_29_method_69_code 1 = .ok (.iload_n 1, 1) := by decide +kernel
theorem d_jdk_29m69_2 : decode jdk_29_method_69_code 2 = .ok (.if_icmp .gt 7, 3) := by decide +kernel
theorem d_jdk_29m69_9 : decode jdk_29_method_69_code 9 = .ok (.iload_n 1, 1) := by decide +kernel
theorem d_jdk_29m69_10 : decode jdk_29_method_69_code 10 = .ok (.ireturn, 1) := by decide +kernel
theorem d_jdk_29m69_5 : decode jdk_29_method_69_code 5 = .ok (.iload_n 0, 1) := by decide +kernel
theorem d_jdk_29m69_6 : decode jdk_29_method_69_code 6 = .ok (.goto 4, 3) := by decide +kernel
theorem d_prog_16m1_0 : decode prog_16_method_1_code 0 = .ok (.aload_n 0, 1) := by decide +kernel
theorem d_prog_16m1_1 : decode prog_16_method_1_code 1 = .ok (.invokespecial 1, 3) := by decide +kernel
theorem d_prog_16m1_4 : decode prog_16_method_1_code 4 = .ok (.aload_n 0, 1) := by decide +kernel
theorem d_prog_16m1_5 : decode prog_16_method_1_code 5 = .ok (.bipush 16, 2) := by decide +kernel
theorem d_prog_16m1_7 : decode prog_16_method_1_code 7 = .ok (.newarray .long, 2) := by decide +kernel
theorem d_prog_16m1_9 : decode prog_16_method_1_code 9 = .ok (.putfield 7, 3) := by decide +kernel
theorem d_prog_16m1_12 : decode prog_16_method_1_code 12 = .ok (.aload_n 0, 1) := by decide +kernel
theorem d_prog_16m1_13 : decode prog_16_method_1_code 13 = .ok (.bipush 16, 2) := by decide +kernel
theorem d_prog_16m1_15 : decode prog_16_method_1_code 15 = .ok (.newarray .long, 2) := by decide +kernel
theorem d_prog_16m1_17 : decode prog_16_method_1_code 17 = .ok (.putfield 13, 3) := by decide +kernel
theorem d_prog_16m1_20 : decode prog_16_method_1_code 20 = .ok (.return_, 1) := by decide +kernel
theorem d_prog_16m2_0 : decode prog_16_method_2_code 0 = .ok (.lload_n 3, 1) := by decide +kernel
theorem d_prog_16m2_1 : decode prog_16_method_2_code 1 = .ok (.lload_n 1, 1) := by decide +kernel
theorem d_prog_16m2_2 : decode prog_16_method_2_code 2 = .ok (.lcmp, 1) := by decide +kernel
theorem d_prog_16m2_3 : decode prog_16_method_2_code 3 = .ok (.ifCond .gt 18, 3) := by decide +kernel
theorem d_prog_16m2_21 : decode prog_16_method_2_code 21 = .ok (.aload_n 0, 1) := by decide +kernel
theorem d_prog_16m2_22 : decode prog_16_method_2_code 22 = .ok (.getfield 25, 3) := by decide +kernel
theorem d_prog_16m2_25 : decode prog_16_method_2_code 25 = .ok (.aload_n 0, 1) := by decide +kernel
theorem d_prog_16m2_26 : decode prog_16_method_2_code 26 = .ok (.getfield 7, 3) := by decide +kernel
theorem d_prog_16m2_29 : decode prog_16_method_2_code 29 = .ok (.arraylength, 1) := by decide +kernel
theorem d_prog_16m2_30 : decode prog_16_method_2_code 30 = .ok (.if_icmp .ne 37, 3) := by decide +kernel
theorem d_prog_16m2_67 : decode prog_16_method_2_code 67 = .ok (.aload_n 0, 1) := by decide +kernel
theorem d_prog_16m2_68 : decode prog_16_method_2_code 68 = .ok (.getfield 7, 3) := by decide +kernel
theorem d_prog_16m2_71 : decode prog_16_method_2_code 71 = .ok (.aload_n 0, 1) := by decide +kernel
theorem d_prog_16m2_72 : decode prog_16_method_2_code 72 = .ok (.getfield 25, 3) := by decide +kernel
theorem d_prog_16m2_75 : decode prog_16_method_2_code 75 = .ok (.lload_n 1, 1) := by decide +kernel
theorem d_prog_16m2_76 : decode prog_16_method_2_code 76 = .ok (.lastore, 1) := by decide +kernel
theorem d_prog_16m2_77 : decode prog_16_method_2_code 77 = .ok (.aload_n 0, 1) := by decide +kernel
theorem d_prog_16m2_78 : decode prog_16_method_2_code 78 = .ok (.getfield 13, 3) := by decide +kernel
theorem d_prog_16m2_81 : decode prog_16_method_2_code 81 = .ok (.aload_n 0, 1) := by decide +kernel
theorem d_prog_16m2_82 : decode prog_16_method_2_code 82 = .ok (.getfield 25, 3) := by decide +kernel
theorem d_prog_16m2_85 : decode prog_16_method_2_code 85 = .ok (.lload_n 3, 1) := by decide +kernel
theorem d_prog_16m2_86 : decode prog_16_method_2_code 86 = .ok (.lastore, 1) := by decide +kernel
theorem d_prog_16m2_87 : decode prog_16_method_2_code 87 = .ok (.aload_n 0, 1) := by decide +kernel
theorem d_prog_16m2_88 : decode prog_16_method_2_code 88 = .ok (.dup, 1) := by decide +kernel
theorem d_prog_16m2_89 : decode prog_16_method_2_code 89 = .ok (.getfield 25, 3) := by decide +kernel
theorem d_prog_16m2_92 : decode prog_16_method_2_code 92 = .ok (.iconst 1, 1) := by decide +kernel
theorem d_prog_16m2_93 : decode prog_16_method_2_code 93 = .ok (.iadd, 1) := by decide +kernel
theorem d_prog_16m2_94 : decode prog_16_method_2_code 94 = .ok (.putfield 25, 3) := by decide +kernel
theorem d_prog_16m2_97 : decode prog_16_method_2_code 97 = .ok (.aload_n 0, 1) := by decide +kernel
theorem d_prog_16m2_98 : decode prog_16_method_2_code 98 = .ok (.areturn, 1) := by decide +kernel
theorem d_jdk_65m124_0 : decode jdk_65_method_124_code 0 = .ok (.iload_n 1, 1) := by decide +kernel
theorem d_jdk_65m124_1 : decode jdk_65_method_124_code 1 = .ok (.aload_n 0, 1) := by decide +kernel
theorem d_jdk_65m124_2 : decode jdk_65_method_124_code 2 = .ok (.arraylength, 1) := by decide +kernel
theorem d_jdk_65m124_3 : decode jdk_65_method_124_code 3 = .ok (.if_icmp .ne 11, 3) := by decide +kernel
theorem d_jdk_65m124_14 : decode jdk_65_method_124_code 14 = .ok (.iload_n 1, 1) := by decide +kernel
theorem d_jdk_65m124_15 : decode jdk_65_method_124_code 15 = .ok (.newarray .long, 2) := by decide +kernel
theorem d_jdk_65m124_17 : decode jdk_65_method_124_code 17 = .ok (.astore_n 2, 1) := by decide +kernel
theorem d_jdk_65m124_18 : decode jdk_65_method_124_code 18 = .ok (.aload_n 0, 1) := by decide +kernel
theorem d_jdk_65m124_19 : decode jdk_65_method_124_code 19 = .ok (.iconst 0, 1) := by decide +kernel
theorem d_jdk_65m124_20 : decode jdk_65_method_124_code 20 = .ok (.aload_n 2, 1) := by decide +kernel
theorem d_jdk_65m124_21 : decode jdk_65_method_124_code 21 = .ok (.iconst 0, 1) := by decide +kernel
theorem d_jdk_65m124_22 : decode jdk_65_method_124_code 22 = .ok (.aload_n 0, 1) := by decide +kernel
theorem d_jdk_65m124_23 : decode jdk_65_method_124_code 23 = .ok (.arraylength, 1) := by decide +kernel
theorem d_jdk_65m124_24 : decode jdk_65_method_124_code 24 = .ok (.iload_n 1, 1) := by decide +kernel
theorem d_jdk_65m124_25 : decode jdk_65_method_124_code 25 = .ok (.invokestatic 304, 3) := by decide +kernel
theorem d_jdk_65m124_28 : decode jdk_65_method_124_code 28 = .ok (.invokestatic 150, 3) := by decide +kernel
theorem d_jdk_65m124_31 : decode jdk_65_method_124_code 31 = .ok (.aload_n 2, 1) := by decide +kernel
theorem d_jdk_65m124_32 : decode jdk_65_method_124_code 32 = .ok (.areturn, 1) := by decide +kernel
theorem d_jdk_65m124_6 : decode jdk_65_method_124_code 6 = .ok (.aload_n 0, 1) := by decide +kernel
theorem d_jdk_65m124_7 : decode jdk_65_method_124_code 7 = .ok (.invokevirtual 319, 3) := by decide +kernel
theorem d_jdk_65m124_10 : decode jdk_65_method_124_code 10 = .ok (.checkcast 320, 3) := by decide +kernel
theorem d_jdk_65m124_13 : decode jdk_65_method_124_code 13 = .ok (.areturn, 1) := by decide +kernel
theorem d_jdk_2529m15_0 : decode jdk_2529_method_15_code 0 = .ok (.iload_n 1, 1) := by decide +kernel
theorem d_jdk_2529m15_1 : decode jdk_2529_method_15_code 1 = .ok (.istore 4, 2) := by decide +kernel
theorem d_jdk_2529m15_3 : decode jdk_2529_method_15_code 3 = .ok (.iinc 4 1, 3) := by decide +kernel
theorem d_jdk_2529m15_6 : decode jdk_2529_method_15_code 6 = .ok (.iload 4, 2) := by decide +kernel
theorem d_jdk_2529m15_8 : decode jdk_2529_method_15_code 8 = .ok (.iload_n 2, 1) := by decide +kernel
theorem d_jdk_2529m15_9 : decode jdk_2529_method_15_code 9 = .ok (.if_icmp .ge 60, 3) := by decide +kernel
theorem d_jdk_2529m15_12 : decode jdk_2529_method_15_code 12 = .ok (.aload_n 0, 1) := by decide +kernel
theorem d_jdk_2529m15_13 : decode jdk_2529_method_15_code 13 = .ok (.iload 4, 2) := by decide +kernel
theorem d_jdk_2529m15_15 : decode jdk_2529_method_15_code 15 = .ok (.dup, 1) := by decide +kernel
theorem d_jdk_2529m15_16 : decode jdk_2529_method_15_code 16 = .ok (.istore_n 3, 1) := by decide +kernel
theorem d_jdk_2529m15_17 : decode jdk_2529_method_15_code 17 = .ok (.laload, 1) := by decide +kernel
theorem d_jdk_2529m15_18 : decode jdk_2529_method_15_code 18 = .ok (.lstore 5, 2) := by decide +kernel
theorem d_jdk_2529m15_20 : decode jdk_2529_method_15_code 20 = .ok (.lload 5, 2) := by decide +kernel
theorem d_jdk_2529m15_22 : decode jdk_2529_method_15_code 22 = .ok (.aload_n 0, 1) := by decide +kernel
theorem d_jdk_2529m15_23 : decode jdk_2529_method_15_code 23 = .ok (.iload_n 3, 1) := by decide +kernel
theorem d_jdk_2529m15_24 : decode jdk_2529_method_15_code 24 = .ok (.iconst 1, 1) := by decide +kernel
theorem d_jdk_2529m15_25 : decode jdk_2529_method_15_code 25 = .ok (.isub, 1) := by decide +kernel
theorem d_jdk_2529m15_26 : decode jdk_2529_method_15_code 26 = .ok (.laload, 1) := by decide +kernel
theorem d_jdk_2529m15_27 : decode jdk_2529_method_15_code 27 = .ok (.lcmp, 1) := by decide +kernel
theorem d_jdk_2529m15_28 : decode jdk_2529_method_15_code 28 = .ok (.ifCond .ge 38, 3) := by decide +kernel
theorem d_jdk_2529m15_31 : decode jdk_2529_method_15_code 31 = .ok (.iinc 3 (-1), 3) := by decide +kernel
theorem d_jdk_2529m15_34 : decode jdk_2529_method_15_code 34 = .ok (.iload_n 3, 1) := by decide +kernel
theorem d_jdk_2529m15_35 : decode jdk_2529_method_15_code 35 = .ok (.iload_n 1, 1) := by decide +kernel
theorem d_jdk_2529m15_36 : decode jdk_2529_method_15_code 36 = .ok (.if_icmp .lt 23, 3) := by decide +kernel
theorem d_jdk_2529m15_39 : decode jdk_2529_method_15_code 39 = .ok (.lload 5, 2) := by decide +kernel
theorem d_jdk_2529m15_41 : decode jdk_2529_method_15_code 41 = .ok (.aload_n 0, 1) := by decide +kernel
theorem d_jdk_2529m15_42 : decode jdk_2529_method_15_code 42 = .ok (.iload_n 3, 1) := by decide +kernel
theorem d_jdk_2529m15_43 : decode jdk_2529_method_15_code 43 = .ok (.laload, 1) := by decide +kernel
theorem d_jdk_2529m15_44 : decode jdk_2529_method_15_code 44 = .ok (.lcmp, 1) := by decide +kernel
theorem d_jdk_2529m15_45 : decode jdk_2529_method_15_code 45 = .ok (.ifCond .ge 14, 3) := by decide +kernel
theorem d_jdk_2529m15_48 : decode jdk_2529_method_15_code 48 = .ok (.aload_n 0, 1) := by decide +kernel
theorem d_jdk_2529m15_49 : decode jdk_2529_method_15_code 49 = .ok (.iload_n 3, 1) := by decide +kernel
theorem d_jdk_2529m15_50 : decode jdk_2529_method_15_code 50 = .ok (.iconst 1, 1) := by decide +kernel
theorem d_jdk_2529m15_51 : decode jdk_2529_method_15_code 51 = .ok (.iadd, 1) := by decide +kernel
theorem d_jdk_2529m15_52 : decode jdk_2529_method_15_code 52 = .ok (.aload_n 0, 1) := by decide +kernel
theorem d_jdk_2529m15_53 : decode jdk_2529_method_15_code 53 = .ok (.iload_n 3, 1) := by decide +kernel
theorem d_jdk_2529m15_54 : decode jdk_2529_method_15_code 54 = .ok (.laload, 1) := by decide +kernel
theorem d_jdk_2529m15_55 : decode jdk_2529_method_15_code 55 = .ok (.lastore, 1) := by decide +kernel
theorem d_jdk_2529m15_56 : decode jdk_2529_method_15_code 56 = .ok (.goto (-25), 3) := by decide +kernel
theorem d_jdk_2529m15_59 : decode jdk_2529_method_15_code 59 = .ok (.aload_n 0, 1) := by decide +kernel
theorem d_jdk_2529m15_60 : decode jdk_2529_method_15_code 60 = .ok (.iload_n 3, 1) := by decide +kernel
theorem d_jdk_2529m15_61 : decode jdk_2529_method_15_code 61 = .ok (.iconst 1, 1) := by decide +kernel
theorem d_jdk_2529m15_62 : decode jdk_2529_method_15_code 62 = .ok (.iadd, 1) := by decide +kernel
theorem d_jdk_2529m15_63 : decode jdk_2529_method_15_code 63 = .ok (.lload 5, 2) := by decide +kernel
theorem d_jdk_2529m15_65 : decode jdk_2529_method_15_code 65 = .ok (.lastore, 1) := by decide +kernel
theorem d_jdk_2529m15_66 : decode jdk_2529_method_15_code 66 = .ok (.goto (-63), 3) := by decide +kernel
theorem d_jdk_2529m15_69 : decode jdk_2529_method_15_code 69 = .ok (.return_, 1) := by decide +kernel
theorem d_jdk_2529m13_0 : decode jdk_2529_method_13_code 0 = .ok (.iload 4, 2) := by decide +kernel
theorem d_jdk_2529m13_2 : decode jdk_2529_method_13_code 2 = .ok (.iconst 1, 1) := by decide +kernel
theorem d_jdk_2529m13_3 : decode jdk_2529_method_13_code 3 = .ok (.isub, 1) := by decide +kernel
theorem d_jdk_2529m13_4 : decode jdk_2529_method_13_code 4 = .ok (.istore 5, 2) := by decide +kernel
theorem d_jdk_2529m13_6 : decode jdk_2529_method_13_code 6 = .ok (.iload 4, 2) := by decide +kernel
theorem d_jdk_2529m13_8 : decode jdk_2529_method_13_code 8 = .ok (.iload_n 3, 1) := by decide +kernel
theorem d_jdk_2529m13_9 : decode jdk_2529_method_13_code 9 = .ok (.isub, 1) := by decide +kernel
theorem d_jdk_2529m13_10 : decode jdk_2529_method_13_code 10 = .ok (.istore 6, 2) := by decide +kernel
theorem d_jdk_2529m13_12 : decode jdk_2529_method_13_code 12 = .ok (.iload 6, 2) := by decide +kernel
theorem d_jdk_2529m13_14 : decode jdk_2529_method_13_code 14 = .ok (.bipush 65, 2) := by decide +kernel
theorem d_jdk_2529m13_16 : decode jdk_2529_method_13_code 16 = .ok (.iload_n 2, 1) := by decide +kernel
theorem d_jdk_2529m13_17 : decode jdk_2529_method_13_code 17 = .ok (.iadd, 1) := by decide +kernel
theorem d_jdk_2529m13_18 : decode jdk_2529_method_13_code 18 = .ok (.if_icmp .ge 28, 3) := by decide +kernel
theorem d_jdk_2529m13_21 : decode jdk_2529_method_13_code 21 = .ok (.iload_n 2, 1) := by decide +kernel
theorem d_jdk_2529m13_22 : decode jdk_2529_method_13_code 22 = .ok (.iconst 1, 1) := by decide +kernel
theorem d_jdk_2529m13_23 : decode jdk_2529_method_13_code 23 = .ok (.iand, 1) := by decide +kernel
theorem d_jdk_2529m13_24 : decode jdk_2529_method_13_code 24 = .ok (.ifCond .le 22, 3) := by decide +kernel
theorem d_jdk_2529m13_46 : decode jdk_2529_method_13_code 46 = .ok (.iload 6, 2) := by decide +kernel
theorem d_jdk_2529m13_48 : decode jdk_2529_method_13_code 48 = .ok (.bipush 44, 2) := by decide +kernel
theorem d_jdk_2529m13_50 : decode jdk_2529_method_13_code 50 = .ok (.if_icmp .ge 11, 3) := by decide +kernel
theorem d_jdk_2529m13_53 : decode jdk_2529_method_13_code 53 = .ok (.aload_n 1, 1) := by decide +kernel
theorem d_jdk_2529m13_54 : decode jdk_2529_method_13_code 54 = .ok (.iload_n 3, 1) := by decide +kernel
theorem d_jdk_2529m13_55 : decode jdk_2529_method_13_code 55 = .ok (.iload 4, 2) := by decide +kernel
theorem d_jdk_2529m13_57 : decode jdk_2529_method_13_code 57 = .ok (.invokestatic 105, 3) := by decide +kernel
theorem d_jdk_2529m13_60 : decode jdk_2529_method_13_code 60 = .ok (.return_, 1) := by decide +kernel
theorem d_jdk_2529m12_0 : decode jdk_2529_method_12_code 0 = .ok (.iload_n 3, 1) := by decide +kernel
theorem d_jdk_2529m12_1 : decode jdk_2529_method_12_code 1 = .ok (.iload_n 2, 1) := by decide +kernel
theorem d_jdk_2529m12_2 : decode jdk_2529_method_12_code 2 = .ok (.isub, 1) := by decide +kernel
theorem d_jdk_2529m12_3 : decode jdk_2529_method_12_code 3 = .ok (.istore 4, 2) := by decide +kernel
theorem d_jdk_2529m12_5 : decode jdk_2529_method_12_code 5 = .ok (.iload_n 1, 1) := by decide +kernel
theorem d_jdk_2529m12_6 : decode jdk_2529_method_12_code 6 = .ok (.iconst 1, 1) := by decide +kernel
theorem d_jdk_2529m12_7 : decode jdk_2529_method_12_code 7 = .ok (.if_icmp .le 61, 3) := by decide +kernel
theorem d_jdk_2529m12_68 : decode jdk_2529_method_12_code 68 = .ok (.aconst_null, 1) := by decide +kernel
theorem d_jdk_2529m12_69 : decode jdk_2529_method_12_code 69 = .ok (.aload_n 0, 1) := by decide +kernel
theorem d_jdk_2529m12_70 : decode jdk_2529_method_12_code 70 = .ok (.iconst 0, 1) := by decide +kernel
theorem d_jdk_2529m12_71 : decode jdk_2529_method_12_code 71 = .ok (.iload_n 2, 1) := by decide +kernel
theorem d_jdk_2529m12_72 : decode jdk_2529_method_12_code 72 = .ok (.iload_n 3, 1) := by decide +kernel
theorem d_jdk_2529m12_73 : decode jdk_2529_method_12_code 73 = .ok (.invokestatic 99, 3) := by decide +kernel
theorem d_jdk_2529m12_76 : decode jdk_2529_method_12_code 76 = .ok (.return_, 1) := by decide +kernel
theorem d_jdk_65m4_0 : decode jdk_65_method_4_code 0 = .ok (.aload_n 0, 1) := by decide +kernel
theorem d_jdk_65m4_1 : decode jdk_65_method_4_code 1 = .ok (.iconst 0, 1) := by decide +kernel
theorem d_jdk_65m4_2 : decode jdk_65_method_4_code 2 = .ok (.iconst 0, 1) := by decide +kernel
theorem d_jdk_65m4_3 : decode jdk_65_method_4_code 3 = .ok (.aload_n 0, 1) := by decide +kernel
theorem d_jdk_65m4_4 : decode jdk_65_method_4_code 4 = .ok (.arraylength, 1) := by decide +kernel
theorem d_jdk_65m4_5 : decode jdk_65_method_4_code 5 = .ok (.invokestatic 19, 3) := by decide +kernel
theorem d_jdk_65m4_8 : decode jdk_65_method_4_code 8 = .ok (.return_, 1) := by decide +kernel
theorem d_prog_15m1_0 : decode prog_15_method_1_code 0 = .ok (.aload_n 0, 1) := by decide +kernel
theorem d_prog_15m1_1 : decode prog_15_method_1_code 1 = .ok (.invokespecial 1, 3) := by decide +kernel
theorem d_prog_15m1_4 : decode prog_15_method_1_code 4 = .ok (.aload_n 0, 1) := by decide +kernel
theorem d_prog_15m1_5 : decode prog_15_method_1_code 5 = .ok (.aload_n 1, 1) := by decide +kernel
theorem d_prog_15m1_6 : decode prog_15_method_1_code 6 = .ok (.putfield 7, 3) := by decide +kernel
theorem d_prog_15m1_9 : decode prog_15_method_1_code 9 = .ok (.aload_n 0, 1) := by decide +kernel
theorem d_prog_15m1_10 : decode prog_15_method_1_code 10 = .ok (.aload_n 2, 1) := by decide +kernel
theorem d_prog_15m1_11 : decode prog_15_method_1_code 11 = .ok (.putfield 13, 3) := by decide +kernel
theorem d_prog_15m1_14 : decode prog_15_method_1_code 14 = .ok (.return_, 1) := by decide +kernel
theorem d_prog_16m3_0 : decode prog_16_method_3_code 0 = .ok (.aload_n 0, 1) := by decide +kernel
theorem d_prog_16m3_1 : decode prog_16_method_3_code 1 = .ok (.getfield 7, 3) := by decide +kernel
theorem d_prog_16m3_4 : decode prog_16_method_3_code 4 = .ok (.aload_n 0, 1) := by decide +kernel
theorem d_prog_16m3_5 : decode prog_16_method_3_code 5 = .ok (.getfield 25, 3) := by decide +kernel
theorem d_prog_16m3_8 : decode prog_16_method_3_code 8 = .ok (.invokestatic 29, 3) := by decide +kernel
theorem d_prog_16m3_11 : decode prog_16_method_3_code 11 = .ok (.astore_n 1, 1) := by decide +kernel
theorem d_prog_16m3_12 : decode prog_16_method_3_code 12 = .ok (.aload_n 0, 1) := by decide +kernel
theorem d_prog_16m3_13 : decode prog_16_method_3_code 13 = .ok (.getfield 13, 3) := by decide +kernel
theorem d_prog_16m3_16 : decode prog_16_method_3_code 16 = .ok (.aload_n 0, 1) := by decide +kernel
theorem d_prog_16m3_17 : decode prog_16_method_3_code 17 = .ok (.getfield 25, 3) := by decide +kernel
theorem d_prog_16m3_20 : decode prog_16_method_3_code 20 = .ok (.invokestatic 29, 3) := by decide +kernel
theorem d_prog_16m3_23 : decode prog_16_method_3_code 23 = .ok (.astore_n 2, 1) := by decide +kernel
theorem d_prog_16m3_24 : decode prog_16_method_3_code 24 = .ok (.aload_n 1, 1) := by decide +kernel
theorem d_prog_16m3_25 : decode prog_16_method_3_code 25 = .ok (.invokestatic 35, 3) := by decide +kernel
theorem d_prog_16m3_28 : decode prog_16_method_3_code 28 = .ok (.aload_n 2, 1) := by decide +kernel
theorem d_prog_16m3_29 : decode prog_16_method_3_code 29 = .ok (.invokestatic 35, 3) := by decide +kernel
theorem d_prog_16m3_32 : decode prog_16_method_3_code 32 = .ok (.aload_n 0, 1) := by decide +kernel
theorem d_prog_16m3_33 : decode prog_16_method_3_code 33 = .ok (.getfield 25, 3) := by decide +kernel
theorem d_prog_16m3_36 : decode prog_16_method_3_code 36 = .ok (.newarray .long, 2) := by decide +kernel
theorem d_prog_16m3_38 : decode prog_16_method_3_code 38 = .ok (.astore_n 3, 1) := by decide +kernel
theorem d_prog_16m3_39 : decode prog_16_method_3_code 39 = .ok (.aload_n 0, 1) := by decide +kernel
theorem d_prog_16m3_40 : decode prog_16_method_3_code 40 = .ok (.getfield 25, 3) := by decide +kernel
theorem d_prog_16m3_43 : decode prog_16_method_3_code 43 = .ok (.newarray .long, 2) := by decide +kernel
theorem d_prog_16m3_45 : decode prog_16_method_3_code 45 = .ok (.astore 4, 2) := by decide +kernel
theorem d_prog_16m3_47 : decode prog_16_method_3_code 47 = .ok (.iconst 0, 1) := by decide +kernel
theorem d_prog_16m3_48 : decode prog_16_method_3_code 48 = .ok (.istore 5, 2) := by decide +kernel
theorem d_prog_16m3_50 : decode prog_16_method_3_code 50 = .ok (.iconst 0, 1) := by decide +kernel
theorem d_prog_16m3_51 : decode prog_16_method_3_code 51 = .ok (.istore 6, 2) := by decide +kernel
theorem d_prog_16m3_53 : decode prog_16_method_3_code 53 = .ok (.iconst 0, 1) := by decide +kernel
theorem d_prog_16m3_54 : decode prog_16_method_3_code 54 = .ok (.istore 7, 2) := by decide +kernel
theorem d_prog_16m3_56 : decode prog_16_method_3_code 56 = .ok (.iconst 0, 1) := by decide +kernel
theorem d_prog_16m3_57 : decode prog_16_method_3_code 57 = .ok (.istore 8, 2) := by decide +kernel
theorem d_prog_16m3_59 : decode prog_16_method_3_code 59 = .ok (.iload 8, 2) := by decide +kernel
theorem d_prog_16m3_61 : decode prog_16_method_3_code 61 = .ok (.aload_n 0, 1) := by decide +kernel
theorem d_prog_16m3_62 : decode prog_16_method_3_code 62 = .ok (.getfield 25, 3) := by decide +kernel
theorem d_prog_16m3_65 : decode prog_16_method_3_code 65 = .ok (.if_icmp .ge 67, 3) := by decide +kernel
theorem d_prog_16m3_68 : decode prog_16_method_3_code 68 = .ok (.aload_n 2, 1) := by decide +kernel
theorem d_prog_16m3_69 : decode prog_16_method_3_code 69 = .ok (.iload 7, 2) := by decide +kernel
theorem d_prog_16m3_71 : decode prog_16_method_3_code 71 = .ok (.laload, 1) := by decide +kernel
theorem d_prog_16m3_72 : decode prog_16_method_3_code 72 = .ok (.aload_n 1, 1) := by decide +kernel
theorem d_prog_16m3_73 : decode prog_16_method_3_code 73 = .ok (.iload 8, 2) := by decide +kernel
theorem d_prog_16m3_75 : decode prog_16_method_3_code 75 = .ok (.laload, 1) := by decide +kernel
theorem d_prog_16m3_76 : decode prog_16_method_3_code 76 = .ok (.lcmp, 1) := by decide +kernel
theorem d_prog_16m3_77 : decode prog_16_method_3_code 77 = .ok (.ifCond .ge 30, 3) := by decide +kernel
theorem d_prog_16m3_107 : decode prog_16_method_3_code 107 = .ok (.iload 6, 2) := by decide +kernel
theorem d_prog_16m3_109 : decode prog_16_method_3_code 109 = .ok (.ifCond .ne 14, 3) := by decide +kernel
theorem d_prog_16m3_112 : decode prog_16_method_3_code 112 = .ok (.aload_n 3, 1) := by decide +kernel
theorem d_prog_16m3_113 : decode prog_16_method_3_code 113 = .ok (.iload 5, 2) := by decide +kernel
theorem d_prog_16m3_115 : decode prog_16_method_3_code 115 = .ok (.iinc 5 1, 3) := by decide +kernel
theorem d_prog_16m3_118 : decode prog_16_method_3_code 118 = .ok (.aload_n 1, 1) := by decide +kernel
theorem d_prog_16m3_119 : decode prog_16_method_3_code 119 = .ok (.iload 8, 2) := by decide +kernel
theorem d_prog_16m3_121 : decode prog_16_method_3_code 121 = .ok (.laload, 1) := by decide +kernel
theorem d_prog_16m3_122 : decode prog_16_method_3_code 122 = .ok (.lastore, 1) := by decide +kernel
theorem d_prog_16m3_123 : decode prog_16_method_3_code 123 = .ok (.iinc 6 1, 3) := by decide +kernel
theorem d_prog_16m3_126 : decode prog_16_method_3_code 126 = .ok (.iinc 8 1, 3) := by decide +kernel
theorem d_prog_16m3_129 : decode prog_16_method_3_code 129 = .ok (.goto (-70), 3) := by decide +kernel
theorem d_prog_16m3_80 : decode prog_16_method_3_code 80 = .ok (.iinc 6 (-1), 3) := by decide +kernel
theorem d_prog_16m3_83 : decode prog_16_method_3_code 83 = .ok (.iinc 7 1, 3) := by decide +kernel
theorem d_prog_16m3_86 : decode prog_16_method_3_code 86 = .ok (.iload 6, 2) := by decide +kernel
theorem d_prog_16m3_88 : decode prog_16_method_3_code 88 = .ok (.ifCond .ne (-20), 3) := by decide +kernel
theorem d_prog_16m3_91 : decode prog_16_method_3_code 91 = .ok (.aload 4, 2) := by decide +kernel
theorem d_prog_16m3_93 : decode prog_16_method_3_code 93 = .ok (.iload 5, 2) := by decide +kernel
theorem d_prog_16m3_95 : decode prog_16_method_3_code 95 = .ok (.iconst 1, 1) := by decide +kernel
theorem d_prog_16m3_96 : decode prog_16_method_3_code 96 = .ok (.isub, 1) := by decide +kernel
theorem d_prog_16m3_97 : decode prog_16_method_3_code 97 = .ok (.aload_n 2, 1) := by decide +kernel
theorem d_prog_16m3_98 : decode prog_16_method_3_code 98 = .ok (.iload 7, 2) := by decide +kernel
theorem d_prog_16m3_100 : decode prog_16_method_3_code 100 = .ok (.iconst 1, 1) := by decide +kernel
theorem d_prog_16m3_101 : decode prog_16_method_3_code 101 = .ok (.isub, 1) := by decide +kernel
theorem d_prog_16m3_102 : decode prog_16_method_3_code 102 = .ok (.laload, 1) := by decide +kernel
theorem d_prog_16m3_103 : decode prog_16_method_3_code 103 = .ok (.lastore, 1) := by decide +kernel
theorem d_prog_16m3_104 : decode prog_16_method_3_code 104 = .ok (.goto (-36), 3) := by decide +kernel
theorem d_prog_16m3_132 : decode prog_16_method_3_code 132 = .ok (.aload_n 0, 1) := by decide +kernel
theorem d_prog_16m3_133 : decode prog_16_method_3_code 133 = .ok (.getfield 25, 3) := by decide +kernel
theorem d_prog_16m3_136 : decode prog_16_method_3_code 136 = .ok (.ifCond .le 18, 3) := by decide +kernel
theorem d_prog_16m3_139 : decode prog_16_method_3_code 139 = .ok (.aload 4, 2) := by decide +kernel
theorem d_prog_16m3_141 : decode prog_16_method_3_code 141 = .ok (.iload 5, 2) := by decide +kernel
theorem d_prog_16m3_143 : decode prog_16_method_3_code 143 = .ok (.iconst 1, 1) := by decide +kernel
theorem d_prog_16m3_144 : decode prog_16_method_3_code 144 = .ok (.isub, 1) := by decide +kernel
theorem d_prog_16m3_145 : decode prog_16_method_3_code 145 = .ok (.aload_n 2, 1) := by decide +kernel
theorem d_prog_16m3_146 : decode prog_16_method_3_code 146 = .ok (.aload_n 0, 1) := by decide +kernel
theorem d_prog_16m3_147 : decode prog_16_method_3_code 147 = .ok (.getfield 25, 3) := by decide +kernel
theorem d_prog_16m3_150 : decode prog_16_method_3_code 150 = .ok (.iconst 1, 1) := by decide +kernel
theorem d_prog_16m3_151 : decode prog_16_method_3_code 151 = .ok (.isub, 1) := by decide +kernel
theorem d_prog_16m3_152 : decode prog_16_method_3_code 152 = .ok (.laload, 1) := by decide +kernel
theorem d_prog_16m3_153 : decode prog_16_method_3_code 153 = .ok (.lastore, 1) := by decide +kernel
theorem d_prog_16m3_154 : decode prog_16_method_3_code 154 = .ok (.new 39, 3) := by decide +kernel
theorem d_prog_16m3_157 : decode prog_16_method_3_code 157 = .ok (.dup, 1) := by decide +kernel
theorem d_prog_16m3_158 : decode prog_16_method_3_code 158 = .ok (.aload_n 3, 1) := by decide +kernel
theorem d_prog_16m3_159 : decode prog_16_method_3_code 159 = .ok (.iload 5, 2) := by decide +kernel
theorem d_prog_16m3_161 : decode prog_16_method_3_code 161 = .ok (.invokestatic 29, 3) := by decide +kernel
theorem d_prog_16m3_164 : decode prog_16_method_3_code 164 = .ok (.aload 4, 2) := by decide +kernel
theorem d_prog_16m3_166 : decode prog_16_method_3_code 166 = .ok (.iload 5, 2) := by decide +kernel
theorem d_prog_16m3_168 : decode prog_16_method_3_code 168 = .ok (.invokestatic 29, 3) := by decide +kernel
theorem d_prog_16m3_171 : decode prog_16_method_3_code 171 = .ok (.invokespecial 41, 3) := by decide +kernel
theorem d_prog_16m3_174 : decode prog_16_method_3_code 174 = .ok (.areturn, 1) := by decide +kernel
theorem d_jdk_65m56_0 : decode jdk_65_method_56_code 0 = .ok (.iload_n 1, 1) := by decide +kernel
theorem d_jdk_65m56_1 : decode jdk_65_method_56_code 1 = .ok (.istore 5, 2) := by decide +kernel
theorem d_jdk_65m56_3 : decode jdk_65_method_56_code 3 = .ok (.iload_n 2, 1) := by decide +kernel
theorem d_jdk_65m56_4 : decode jdk_65_method_56_code 4 = .ok (.iconst 1, 1) := by decide +kernel
theorem d_jdk_65m56_5 : decode jdk_65_method_56_code 5 = .ok (.isub, 1) := by decide +kernel
theorem d_jdk_65m56_6 : decode jdk_65_method_56_code 6 = .ok (.istore 6, 2) := by decide +kernel
theorem d_jdk_65m56_8 : decode jdk_65_method_56_code 8 = .ok (.iload 5, 2) := by decide +kernel
theorem d_jdk_65m56_10 : decode jdk_65_method_56_code 10 = .ok (.iload 6, 2) := by decide +kernel
theorem d_jdk_65m56_12 : decode jdk_65_method_56_code 12 = .ok (.if_icmp .gt 56, 3) := by decide +kernel
theorem d_jdk_65m56_15 : decode jdk_65_method_56_code 15 = .ok (.iload 5, 2) := by decide +kernel
theorem d_jdk_65m56_17 : decode jdk_65_method_56_code 17 = .ok (.iload 6, 2) := by decide +kernel
theorem d_jdk_65m56_19 : decode jdk_65_method_56_code 19 = .ok (.iadd, 1) := by decide +kernel
theorem d_jdk_65m56_20 : decode jdk_65_method_56_code 20 = .ok (.iconst 1, 1) := by decide +kernel
theorem d_jdk_65m56_21 : decode jdk_65_method_56_code 21 = .ok (.iushr, 1) := by decide +kernel
theorem d_jdk_65m56_22 : decode jdk_65_method_56_code 22 = .ok (.istore 7, 2) := by decide +kernel
theorem d_jdk_65m56_24 : decode jdk_65_method_56_code 24 = .ok (.aload_n 0, 1) := by decide +kernel
theorem d_jdk_65m56_25 : decode jdk_65_method_56_code 25 = .ok (.iload 7, 2) := by decide +kernel
theorem d_jdk_65m56_27 : decode jdk_65_method_56_code 27 = .ok (.laload, 1) := by decide +kernel
theorem d_jdk_65m56_28 : decode jdk_65_method_56_code 28 = .ok (.lstore 8, 2) := by decide +kernel
theorem d_jdk_65m56_30 : decode jdk_65_method_56_code 30 = .ok (.lload 8, 2) := by decide +kernel
theorem d_jdk_65m56_32 : decode jdk_65_method_56_code 32 = .ok (.lload_n 3, 1) := by decide +kernel
theorem d_jdk_65m56_33 : decode jdk_65_method_56_code 33 = .ok (.lcmp, 1) := by decide +kernel
theorem d_jdk_65m56_34 : decode jdk_65_method_56_code 34 = .ok (.ifCond .ge 12, 3) := by decide +kernel
theorem d_jdk_65m56_37 : decode jdk_65_method_56_code 37 = .ok (.iload 7, 2) := by decide +kernel
theorem d_jdk_65m56_39 : decode jdk_65_method_56_code 39 = .ok (.iconst 1, 1) := by decide +kernel
theorem d_jdk_65m56_40 : decode jdk_65_method_56_code 40 = .ok (.iadd, 1) := by decide +kernel
theorem d_jdk_65m56_41 : decode jdk_65_method_56_code 41 = .ok (.istore 5, 2) := by decide +kernel
theorem d_jdk_65m56_43 : decode jdk_65_method_56_code 43 = .ok (.goto 22, 3) := by decide +kernel
theorem d_jdk_65m56_65 : decode jdk_65_method_56_code 65 = .ok (.goto (-57), 3) := by decide +kernel
theorem d_jdk_65m56_68 : decode jdk_65_method_56_code 68 = .ok (.iload 5, 2) := by decide +kernel
theorem d_jdk_65m56_70 : decode jdk_65_method_56_code 70 = .ok (.iconst 1, 1) := by decide +kernel
theorem d_jdk_65m56_71 : decode jdk_65_method_56_code 71 = .ok (.iadd, 1) := by decide +kernel
theorem d_jdk_65m56_72 : decode jdk_65_method_56_code 72 = .ok (.ineg, 1) := by decide +kernel
theorem d_jdk_65m56_73 : decode jdk_65_method_56_code 73 = .ok (.ireturn, 1) := by decide +kernel
theorem d_jdk_65m56_46 : decode jdk_65_method_56_code 46 = .ok (.lload 8, 2) := by decide +kernel
theorem d_jdk_65m56_48 : decode jdk_65_method_56_code 48 = .ok (.lload_n 3, 1) := by decide +kernel
theorem d_jdk_65m56_49 : decode jdk_65_method_56_code 49 = .ok (.lcmp, 1) := by decide +kernel
theorem d_jdk_65m56_50 : decode jdk_65_method_56_code 50 = .ok (.ifCond .le 12, 3) := by decide +kernel
theorem d_jdk_65m56_53 : decode jdk_65_method_56_code 53 = .ok (.iload 7, 2) := by decide +kernel
theorem d_jdk_65m56_55 : decode jdk_65_method_56_code 55 = .ok (.iconst 1, 1) := by decide +kernel
theorem d_jdk_65m56_56 : decode jdk_65_method_56_code 56 = .ok (.isub, 1) := by decide +kernel
theorem d_jdk_65m56_57 : decode jdk_65_method_56_code 57 = .ok (.istore 6, 2) := by decide +kernel
theorem d_jdk_65m56_59 : decode jdk_65_method_56_code 59 = .ok (.goto 6, 3) := by decide +kernel
theorem d_jdk_65m56_62 : decode jdk_65_method_56_code 62 = .ok (.iload 7, 2) := by decide +kernel
theorem d_jdk_65m56_64 : decode jdk_65_method_56_code 64 = .ok (.ireturn, 1) := by decide +kernel
theorem d_jdk_65m54_0 : decode jdk_65_method_54_code 0 = .ok (.aload_n 0, 1) := by decide +kernel
theorem d_jdk_65m54_1 : decode jdk_65_method_54_code 1 = .ok (.iconst 0, 1) := by decide +kernel
theorem d_jdk_65m54_2 : decode jdk_65_method_54_code 2 = .ok (.aload_n 0, 1) := by decide +kernel
theorem d_jdk_65m54_3 : decode jdk_65_method_54_code 3 = .ok (.arraylength, 1) := by decide +kernel
theorem d_jdk_65m54_4 : decode jdk_65_method_54_code 4 = .ok (.lload_n 1, 1) := by decide +kernel
theorem d_jdk_65m54_5 : decode jdk_65_method_54_code 5 = .ok (.invokestatic 205, 3) := by decide +kernel
theorem d_jdk_65m54_8 : decode jdk_65_method_54_code 8 = .ok (.ireturn, 1) := by decide +kernel
theorem d_prog_15m2_0 : decode prog_15_method_2_code 0 = .ok (.aload_n 0, 1) := by decide +kernel
theorem d_prog_15m2_1 : decode prog_15_method_2_code 1 = .ok (.getfield 7, 3) := by decide +kernel
theorem d_prog_15m2_4 : decode prog_15_method_2_code 4 = .ok (.lload_n 1, 1) := by decide +kernel
theorem d_prog_15m2_5 : decode prog_15_method_2_code 5 = .ok (.invokestatic 16, 3) := by decide +kernel
theorem d_prog_15m2_8 : decode prog_15_method_2_code 8 = .ok (.istore_n 3, 1) := by decide +kernel
theorem d_prog_15m2_9 : decode prog_15_method_2_code 9 = .ok (.iload_n 3, 1) := by decide +kernel
theorem d_prog_15m2_10 : decode prog_15_method_2_code 10 = .ok (.ifCond .lt 7, 3) := by decide +kernel
theorem d_prog_15m2_17 : decode prog_15_method_2_code 17 = .ok (.iload_n 3, 1) := by decide +kernel
theorem d_prog_15m2_18 : decode prog_15_method_2_code 18 = .ok (.ineg, 1) := by decide +kernel
theorem d_prog_15m2_19 : decode prog_15_method_2_code 19 = .ok (.iconst 2, 1) := by decide +kernel
theorem d_prog_15m2_20 : decode prog_15_method_2_code 20 = .ok (.isub, 1) := by decide +kernel
theorem d_prog_15m2_21 : decode prog_15_method_2_code 21 = .ok (.istore 4, 2) := by decide +kernel
theorem d_prog_15m2_23 : decode prog_15_method_2_code 23 = .ok (.iload 4, 2) := by decide +kernel
theorem d_prog_15m2_25 : decode prog_15_method_2_code 25 = .ok (.ifCond .lt 19, 3) := by decide +kernel
theorem d_prog_15m2_28 : decode prog_15_method_2_code 28 = .ok (.lload_n 1, 1) := by decide +kernel
theorem d_prog_15m2_29 : decode prog_15_method_2_code 29 = .ok (.aload_n 0, 1) := by decide +kernel
theorem d_prog_15m2_30 : decode prog_15_method_2_code 30 = .ok (.getfield 13, 3) := by decide +kernel
theorem d_prog_15m2_33 : decode prog_15_method_2_code 33 = .ok (.iload 4, 2) := by decide +kernel
theorem d_prog_15m2_35 : decode prog_15_method_2_code 35 = .ok (.laload, 1) := by decide +kernel
theorem d_prog_15m2_36 : decode prog_15_method_2_code 36 = .ok (.lcmp, 1) := by decide +kernel
theorem d_prog_15m2_37 : decode prog_15_method_2_code 37 = .ok (.ifCond .ge 7, 3) := by decide +kernel
theorem d_prog_15m2_40 : decode prog_15_method_2_code 40 = .ok (.iconst 1, 1) := by decide +kernel
theorem d_prog_15m2_41 : decode prog_15_method_2_code 41 = .ok (.goto 4, 3) := by decide +kernel
theorem d_prog_15m2_45 : decode prog_15_method_2_code 45 = .ok (.ireturn, 1) := by decide +kernel
theorem d_prog_15m2_44 : decode prog_15_method_2_code 44 = .ok (.iconst 0, 1) := by decide +kernel
theorem d_prog_15m2_13 : decode prog_15_method_2_code 13 = .ok (.iload_n 3, 1) := by decide +kernel
theorem d_prog_15m2_14 : decode prog_15_method_2_code 14 = .ok (.goto 7, 3) := by decide +kernel
theorem d_method_2_0 : decode method_2_code 0 = .ok (.lload_n 0, 1) := by decide +kernel
theorem d_method_2_1 : decode method_2_code 1 = .ok (.lload 4, 2) := by decide +kernel
theorem d_method_2_3 : decode method_2_code 3 = .ok (.lcmp, 1) := by decide +kernel
theorem d_method_2_4 : decode method_2_code 4 = .ok (.ifCond .gt 14, 3) := by decide +kernel
theorem d_method_2_18 : decode method_2_code 18 = .ok (.iconst 0, 1) := by decide +kernel
theorem d_method_2_19 : decode method_2_code 19 = .ok (.ireturn, 1) := by decide +kernel
theorem d_method_2_7 : decode method_2_code 7 = .ok (.lload 4, 2) := by decide +kernel
theorem d_method_2_9 : decode method_2_code 9 = .ok (.lload_n 2, 1) := by decide +kernel
theorem d_method_2_10 : decode method_2_code 10 = .ok (.lcmp, 1) := by decide +kernel
theorem d_method_2_11 : decode method_2_code 11 = .ok (.ifCond .ge 7, 3) := by decide +kernel
theorem d_method_2_14 : decode method_2_code 14 = .ok (.iconst 1, 1) := by decide +kernel
theorem d_method_2_15 : decode method_2_code 15 = .ok (.goto 4, 3) := by decide +kernel
theorem pn_0 : plainName "com/example/twelfths/twelfths/grid/HourSet$Builder" = true := by first | (simp [plainName, overriddenIn]; done) | decide +kernel
theorem pn_1 : plainName "java/util/Arrays" = true := by first | (simp [plainName, overriddenIn]; done) | decide +kernel
theorem pn_2 : plainName "java/util/DualPivotQuicksort" = true := by first | (simp [plainName, overriddenIn]; done) | decide +kernel
theorem pn_3 : plainName "com/example/twelfths/twelfths/grid/HourSet" = true := by first | (simp [plainName, overriddenIn]; done) | decide +kernel
theorem pn_4 : plainName "com/example/twelfths/twelfths/grid/BuilderAddPinLaw" = true := by first | (simp [plainName, overriddenIn]; done) | decide +kernel
theorem pd_0 : parseMethodDescriptor "(II)I" = some ⟨[.int, .int], some .int⟩ := by decide +kernel
theorem pd_1 : parseMethodDescriptor "([JII)V" = some ⟨[(.array .long), .int, .int], none⟩ := by decide +kernel
theorem pd_2 : parseMethodDescriptor "(Ljava/util/DualPivotQuicksort$Sorter;[JIII)V" = some ⟨[(.object "java/util/DualPivotQuicksort$Sorter"), (.array .long), .int, .int, .int], none⟩ := by decide +kernel
theorem pd_3 : parseMethodDescriptor "([JIII)V" = some ⟨[(.array .long), .int, .int, .int], none⟩ := by decide +kernel
theorem pd_4 : parseMethodDescriptor "([JI)[J" = some ⟨[(.array .long), .int], some (.array .long)⟩ := by decide +kernel
theorem pd_5 : parseMethodDescriptor "([J)V" = some ⟨[(.array .long)], none⟩ := by decide +kernel
theorem pd_6 : parseMethodDescriptor "([J[J)V" = some ⟨[(.array .long), (.array .long)], none⟩ := by decide +kernel
theorem pd_7 : parseMethodDescriptor "([JIIJ)I" = some ⟨[(.array .long), .int, .int, .long], some .int⟩ := by decide +kernel
theorem pd_8 : parseMethodDescriptor "([JJ)I" = some ⟨[(.array .long), .long], some .int⟩ := by decide +kernel
theorem pd_9 : parseMethodDescriptor "(JJ)J" = some ⟨[.long, .long], some .long⟩ := by decide +kernel
theorem pd_10 : parseMethodDescriptor "()V" = some ⟨[], none⟩ := by decide +kernel
theorem pd_11 : parseMethodDescriptor "(JJ)Lcom/example/twelfths/twelfths/grid/HourSet$Builder;" = some ⟨[.long, .long], some (.object "com/example/twelfths/twelfths/grid/HourSet$Builder")⟩ := by decide +kernel
theorem pd_12 : parseMethodDescriptor "()Lcom/example/twelfths/twelfths/grid/HourSet;" = some ⟨[], some (.object "com/example/twelfths/twelfths/grid/HourSet")⟩ := by decide +kernel
theorem pd_13 : parseMethodDescriptor "(JJJ)Z" = some ⟨[.long, .long, .long], some .boolean⟩ := by decide +kernel
theorem pd_14 : parseMethodDescriptor "(J)Z" = some ⟨[.long], some .boolean⟩ := by decide +kernel
theorem ef_cMin (m : MethodId) (x : Int64) (y : Int64) : entryFrame m #[(.long x), (.long y)] 4 = mkF m 0 #[.val (.long x), .second, .val (.long y), .second] [] := by first | (simp [entryFrame, mkF, argsToLocals, Value.category]; done) | rfl
theorem ef_cMax (m : MethodId) (x : Int64) (y : Int64) : entryFrame m #[(.long x), (.long y)] 4 = mkF m 0 #[.val (.long x), .second, .val (.long y), .second] [] := by first | (simp [entryFrame, mkF, argsToLocals, Value.category]; done) | rfl
theorem ef_cMinI (m : MethodId) (x : Int32) (y : Int32) : entryFrame m #[(.int x), (.int y)] 2 = mkF m 0 #[.val (.int x), .val (.int y)] [] := by first | (simp [entryFrame, mkF, argsToLocals, Value.category]; done) | rfl
theorem ef_cBI (m : MethodId) (b : Addr) : entryFrame m #[(.ref b)] 1 = mkF m 0 #[.val (.ref b)] [] := by first | (simp [entryFrame, mkF, argsToLocals, Value.category]; done) | rfl
theorem ef_cA0 (m : MethodId) (b : Addr) (f : Int64) (ee : Int64) : entryFrame m #[(.ref b), (.long f), (.long ee)] 5 = mkF m 0 #[.val (.ref b), .val (.long f), .second, .val (.long ee), .second] [] := by first | (simp [entryFrame, mkF, argsToLocals, Value.category]; done) | rfl
theorem ef_cA1 (m : MethodId) (b : Addr) (f : Int64) (ee : Int64) : entryFrame m #[(.ref b), (.long f), (.long ee)] 5 = mkF m 0 #[.val (.ref b), .val (.long f), .second, .val (.long ee), .second] [] := by first | (simp [entryFrame, mkF, argsToLocals, Value.category]; done) | rfl
theorem ef_cCpA (m : MethodId) (a : Addr) : entryFrame m #[(.ref a), (.int (2 : Int32))] 3 = mkF m 0 #[.val (.ref a), .val (.int (2 : Int32)), .unset] [] := by first | (simp [entryFrame, mkF, argsToLocals, Value.category]; done) | rfl
theorem ef_cCpB (m : MethodId) (a : Addr) : entryFrame m #[(.ref a), (.int (1 : Int32))] 3 = mkF m 0 #[.val (.ref a), .val (.int (1 : Int32)), .unset] [] := by first | (simp [entryFrame, mkF, argsToLocals, Value.category]; done) | rfl
theorem ef_cCpC (m : MethodId) (a : Addr) : entryFrame m #[(.ref a), (.int (2 : Int32))] 3 = mkF m 0 #[.val (.ref a), .val (.int (2 : Int32)), .unset] [] := by first | (simp [entryFrame, mkF, argsToLocals, Value.category]; done) | rfl
theorem ef_cIns (m : MethodId) (a : Addr) : entryFrame m #[(.ref a), (.int (0 : Int32)), (.int (2 : Int32))] 7 = mkF m 0 #[.val (.ref a), .val (.int (0 : Int32)), .val (.int (2 : Int32)), .unset, .unset, .unset, .unset] [] := by first | (simp [entryFrame, mkF, argsToLocals, Value.category]; done) | rfl
theorem ef_cS3 (m : MethodId) (a : Addr) : entryFrame m #[.null, (.ref a), (.int (0 : Int32)), (.int (0 : Int32)), (.int (2 : Int32))] 25 = mkF m 0 #[.val .null, .val (.ref a), .val (.int (0 : Int32)), .val (.int (0 : Int32)), .val (.int (2 : Int32)), .unset, .unset, .unset, .unset, .unset, .unset, .unset, .unset, .unset, .unset, .unset, .unset, .unset, .unset, .unset, .unset, .unset, .unset, .unset, .unset] [] := by first | (simp [entryFrame, mkF, argsToLocals, Value.category]; done) | rfl
theorem ef_cS2 (m : MethodId) (a : Addr) : entryFrame m #[(.ref a), (.int (0 : Int32)), (.int (0 : Int32)), (.int (2 : Int32))] 7 = mkF m 0 #[.val (.ref a), .val (.int (0 : Int32)), .val (.int (0 : Int32)), .val (.int (2 : Int32)), .unset, .unset, .unset] [] := by first | (simp [entryFrame, mkF, argsToLocals, Value.category]; done) | rfl
theorem ef_cS1 (m : MethodId) (a : Addr) : entryFrame m #[(.ref a)] 1 = mkF m 0 #[.val (.ref a)] [] := by first | (simp [entryFrame, mkF, argsToLocals, Value.category]; done) | rfl
theorem ef_cHI (m : MethodId) (b : Addr) (y1 : Addr) (y2 : Addr) : entryFrame m #[(.ref b), (.ref y1), (.ref y2)] 3 = mkF m 0 #[.val (.ref b), .val (.ref y1), .val (.ref y2)] [] := by first | (simp [entryFrame, mkF, argsToLocals, Value.category]; done) | rfl
theorem ef_cB (m : MethodId) (b : Addr) : entryFrame m #[(.ref b)] 9 = mkF m 0 #[.val (.ref b), .unset, .unset, .unset, .unset, .unset, .unset, .unset, .unset] [] := by first | (simp [entryFrame, mkF, argsToLocals, Value.category]; done) | rfl
theorem ef_cB0_1 (m : MethodId) (a : Addr) (q : Int64) : entryFrame m #[(.ref a), (.int (0 : Int32)), (.int (1 : Int32)), (.long q)] 10 = mkF m 0 #[.val (.ref a), .val (.int (0 : Int32)), .val (.int (1 : Int32)), .val (.long q), .second, .unset, .unset, .unset, .unset, .unset] [] := by first | (simp [entryFrame, mkF, argsToLocals, Value.category]; done) | rfl
theorem ef_cB1_1 (m : MethodId) (a : Addr) (q : Int64) : entryFrame m #[(.ref a), (.long q)] 3 = mkF m 0 #[.val (.ref a), .val (.long q), .second] [] := by first | (simp [entryFrame, mkF, argsToLocals, Value.category]; done) | rfl
theorem ef_cC_1 (m : MethodId) (b : Addr) (q : Int64) : entryFrame m #[(.ref b), (.long q)] 5 = mkF m 0 #[.val (.ref b), .val (.long q), .second, .unset, .unset] [] := by first | (simp [entryFrame, mkF, argsToLocals, Value.category]; done) | rfl
theorem ef_cB0_2 (m : MethodId) (a : Addr) (q : Int64) : entryFrame m #[(.ref a), (.int (0 : Int32)), (.int (2 : Int32)), (.long q)] 10 = mkF m 0 #[.val (.ref a), .val (.int (0 : Int32)), .val (.int (2 : Int32)), .val (.long q), .second, .unset, .unset, .unset, .unset, .unset] [] := by first | (simp [entryFrame, mkF, argsToLocals, Value.category]; done) | rfl
theorem ef_cB1_2 (m : MethodId) (a : Addr) (q : Int64) : entryFrame m #[(.ref a), (.long q)] 3 = mkF m 0 #[.val (.ref a), .val (.long q), .second] [] := by first | (simp [entryFrame, mkF, argsToLocals, Value.category]; done) | rfl
theorem ef_cC_2 (m : MethodId) (b : Addr) (q : Int64) : entryFrame m #[(.ref b), (.long q)] 5 = mkF m 0 #[.val (.ref b), .val (.long q), .second, .unset, .unset] [] := by first | (simp [entryFrame, mkF, argsToLocals, Value.category]; done) | rfl
theorem ef_cIn (m : MethodId) (f : Int64) (ee : Int64) (q : Int64) : entryFrame m #[(.long f), (.long ee), (.long q)] 6 = mkF m 0 #[.val (.long f), .second, .val (.long ee), .second, .val (.long q), .second] [] := by first | (simp [entryFrame, mkF, argsToLocals, Value.category]; done) | rfl
theorem ef_cX (m : MethodId) (x1 : Int64) (y1 : Int64) (x2 : Int64) (y2 : Int64) (q : Int64) : entryFrame m #[(.long x1), (.long y1), (.long x2), (.long y2), (.long q)] maxLocals = mkF m 0 #[.val (.long x1), .second, .val (.long y1), .second, .val (.long x2), .second, .val (.long y2), .second, .val (.long q), .second, .unset, .unset, .unset, .unset, .unset, .unset, .unset, .unset, .unset, .unset, .unset, .unset, .unset] [] := by first | (simp [entryFrame, mkF, argsToLocals, Value.category, maxLocals]; done) | rfl
def own_mn (x y : Int64) : Int64 := if y < x then y else x
def own_mx (x y : Int64) : Int64 := if x < y then y else x
def own_mnI (x y : Int32) : Int32 := if y < x then y else x
theorem own_mn_or (x y : Int64) : ((own_mn x y).toInt = x.toInt ∧ x.toInt ≤ y.toInt) ∨ ((own_mn x y).toInt = y.toInt ∧ y.toInt ≤ x.toInt) := by
  unfold own_mn; split <;> rename_i h <;> rw [Int64.lt_iff_toInt_lt] at h <;> omega
theorem own_mx_or (x y : Int64) : ((own_mx x y).toInt = y.toInt ∧ x.toInt ≤ y.toInt) ∨ ((own_mx x y).toInt = x.toInt ∧ y.toInt ≤ x.toInt) := by
  unfold own_mx; split <;> rename_i h <;> rw [Int64.lt_iff_toInt_lt] at h <;> omega
theorem Keep.toExt {h h' : Heap} (K : Keep h h' []) : Ext h h' := ⟨K.1, fun a c q => K.2.1 a c q nin0⟩
theorem own_i1 {f1 f2 e1 e2 : Int64} (h1 : f1 < e1) (h2 : f2 < e2) : ¬ own_mn e1 e2 < own_mn f1 f2 := by
  have q1 := own_mn_or f1 f2; have q3 := own_mn_or e1 e2; rw [Int64.lt_iff_toInt_lt] at *; omega
theorem own_i2 {f1 f2 e1 e2 : Int64} (h1 : f1 < e1) (h2 : f2 < e2) : ¬ own_mx e1 e2 < own_mx f1 f2 := by
  have q1 := own_mx_or f1 f2; have q3 := own_mx_or e1 e2; rw [Int64.lt_iff_toInt_lt] at *; omega
theorem own_ins1 {u0 u1 : Int64} (hc : u1 < u0) : own_mn u0 u1 = u1 ∧ own_mx u0 u1 = u0 := by
  have : ¬ u0 < u1 := by simp only [Int64.lt_iff_toInt_lt] at *; omega
  simp [own_mn, own_mx, hc, this]
theorem own_ins2 {u0 u1 : Int64} (hc : ¬ u1 < u0) : own_mn u0 u1 = u0 ∧ own_mx u0 u1 = u1 := by
  refine ⟨by simp [own_mn, hc], ?_⟩
  by_cases q : u0 < u1
  · simp [own_mx, q]
  · have : u0 = u1 := by simp only [Int64.lt_iff_toInt_lt, ← Int64.toInt_inj] at *; omega
    simp [own_mx, this]
theorem own_le (x y : Int64) : (own_mn x y).toInt ≤ (own_mx x y).toInt := by
  have := own_mn_or x y; have := own_mx_or x y; omega
theorem own_lt {f ee : Int64} (h : f.toInt ≤ ee.toInt) (n : ¬ f = ee) : f < ee := by
  simp only [Int64.lt_iff_toInt_lt, ← Int64.toInt_inj] at *; omega
/-- what Arrays.binarySearch0 answers of a long[] of one and of two -/
def own_bs1 (a q : Int64) : Int32 := if a < q then (-2 : Int32) else if q < a then (-1 : Int32) else (0 : Int32)
def own_bs2 (a b q : Int64) : Int32 := if a < q then (if b < q then (-3 : Int32) else if q < b then (-2 : Int32) else (1 : Int32)) else if q < a then (-1 : Int32) else (0 : Int32)
theorem own_bs1_or (a q : Int64) : (own_bs1 a q = (-2 : Int32) ∧ a < q) ∨ (own_bs1 a q = (-1 : Int32) ∧ q < a) ∨ (own_bs1 a q = (0 : Int32) ∧ ¬ a < q ∧ ¬ q < a) := by
  unfold own_bs1; split
  · exact Or.inl ⟨rfl, by assumption⟩
  · split
    · exact Or.inr (Or.inl ⟨rfl, by assumption⟩)
    · exact Or.inr (Or.inr ⟨rfl, by assumption, by assumption⟩)
theorem own_bs2_or (a b q : Int64) : (own_bs2 a b q = (-3 : Int32) ∧ a < q ∧ b < q) ∨ (own_bs2 a b q = (-2 : Int32) ∧ a < q ∧ q < b) ∨ (own_bs2 a b q = (1 : Int32) ∧ a < q ∧ ¬ b < q ∧ ¬ q < b) ∨ (own_bs2 a b q = (-1 : Int32) ∧ q < a) ∨ (own_bs2 a b q = (0 : Int32) ∧ ¬ a < q ∧ ¬ q < a) := by
  unfold own_bs2; split
  · split
    · exact Or.inl ⟨rfl, by assumption, by assumption⟩
    · split
      · exact Or.inr (Or.inl ⟨rfl, by assumption, by assumption⟩)
      · exact Or.inr (Or.inr (Or.inl ⟨rfl, by assumption, by assumption, by assumption⟩))
  · split
    · exact Or.inr (Or.inr (Or.inr (Or.inl ⟨rfl, by assumption⟩)))
    · exact Or.inr (Or.inr (Or.inr (Or.inr ⟨rfl, by assumption, by assumption⟩)))
/-- whether the set of one span, of two spans, holds q -/
def own_P1 (a c q : Int64) : Prop := a.toInt ≤ q.toInt ∧ q.toInt < c.toInt
def own_P2 (a b c d q : Int64) : Prop := a.toInt ≤ q.toInt ∧ ((q.toInt < c.toInt ∧ (q.toInt ≤ a.toInt ∨ q.toInt < b.toInt)) ∨ (q.toInt < d.toInt ∧ a.toInt < q.toInt ∧ b.toInt ≤ q.toInt))
/-- a boolean that says whether P -/
def own_B (P : Prop) (v : Option Value) : Prop := ∃ r : Int32, v = some (.int r) ∧ ((r = 1 ∧ P) ∨ (r = 0 ∧ ¬ P))
theorem own_nar1 : nar .boolean (1 : Int32) = 1 := by decide
theorem own_nar0 : nar .boolean (0 : Int32) = 0 := by decide
theorem own_r1 : some (Value.int (nar .boolean (1 : Int32))) = some (Value.int 1) := by decide
theorem own_dec {a b : Int64} (h' : b < a) : (a - (1 : Int64)).toInt = a.toInt - 1 := by
  have h := Int64.lt_iff_toInt_lt.mp h'
  rw [Int64.toInt_sub, show (1 : Int64).toInt = 1 from by decide]
  have h1 := a.toInt_lt; have h2 := b.le_toInt
  exact Int.bmod_eq_of_le (by omega) (by omega)
theorem own_l0 {u0 x0 q : Int64} (k0 : u0 < q) (k1 : q < x0) : own_P1 u0 x0 q := by simp only [own_P1, own_P2, Int64.lt_iff_toInt_lt] at *; omega
theorem own_l1 {u0 x0 q : Int64} (k0 : u0 < q) (k1 : ¬ q < x0) : ¬ own_P1 u0 x0 q := by simp only [own_P1, own_P2, Int64.lt_iff_toInt_lt] at *; omega
theorem own_l2 {u0 x0 q : Int64} (k0 : q < u0) : ¬ own_P1 u0 x0 q := by simp only [own_P1, own_P2, Int64.lt_iff_toInt_lt] at *; omega
theorem own_l3 {u0 x0 q : Int64} (k0 : ¬ u0 < q) (k1 : ¬ q < u0) (k2 : q < x0) : own_P1 u0 x0 q := by simp only [own_P1, own_P2, Int64.lt_iff_toInt_lt] at *; omega
theorem own_l4 {u0 x0 q : Int64} (k0 : ¬ u0 < q) (k1 : ¬ q < u0) (k2 : ¬ q < x0) : ¬ own_P1 u0 x0 q := by simp only [own_P1, own_P2, Int64.lt_iff_toInt_lt] at *; omega
theorem own_l5 {u0 u1 x0 x1 q : Int64} (k0 : u0 < q) (k1 : u1 < q) (k2 : q < x1) : own_P2 u0 u1 x0 x1 q := by simp only [own_P1, own_P2, Int64.lt_iff_toInt_lt] at *; omega
theorem own_l6 {u0 u1 x0 x1 q : Int64} (k0 : u0 < q) (k1 : u1 < q) (k2 : ¬ q < x1) : ¬ own_P2 u0 u1 x0 x1 q := by simp only [own_P1, own_P2, Int64.lt_iff_toInt_lt] at *; omega
theorem own_l7 {u0 u1 x0 x1 q : Int64} (k0 : u0 < q) (k1 : q < u1) (k2 : q < x0) : own_P2 u0 u1 x0 x1 q := by simp only [own_P1, own_P2, Int64.lt_iff_toInt_lt] at *; omega
theorem own_l8 {u0 u1 x0 x1 q : Int64} (k0 : u0 < q) (k1 : q < u1) (k2 : ¬ q < x0) : ¬ own_P2 u0 u1 x0 x1 q := by simp only [own_P1, own_P2, Int64.lt_iff_toInt_lt] at *; omega
theorem own_l9 {u0 u1 x0 x1 q : Int64} (k0 : u0 < q) (k1 : ¬ u1 < q) (k2 : ¬ q < u1) (k3 : q < x1) : own_P2 u0 u1 x0 x1 q := by simp only [own_P1, own_P2, Int64.lt_iff_toInt_lt] at *; omega
theorem own_l10 {u0 u1 x0 x1 q : Int64} (k0 : u0 < q) (k1 : ¬ u1 < q) (k2 : ¬ q < u1) (k3 : ¬ q < x1) : ¬ own_P2 u0 u1 x0 x1 q := by simp only [own_P1, own_P2, Int64.lt_iff_toInt_lt] at *; omega
theorem own_l11 {u0 u1 x0 x1 q : Int64} (k0 : q < u0) : ¬ own_P2 u0 u1 x0 x1 q := by simp only [own_P1, own_P2, Int64.lt_iff_toInt_lt] at *; omega
theorem own_l12 {u0 u1 x0 x1 q : Int64} (k0 : ¬ u0 < q) (k1 : ¬ q < u0) (k2 : q < x0) : own_P2 u0 u1 x0 x1 q := by simp only [own_P1, own_P2, Int64.lt_iff_toInt_lt] at *; omega
theorem own_l13 {u0 u1 x0 x1 q : Int64} (k0 : ¬ u0 < q) (k1 : ¬ q < u0) (k2 : ¬ q < x0) : ¬ own_P2 u0 u1 x0 x1 q := by simp only [own_P1, own_P2, Int64.lt_iff_toInt_lt] at *; omega
theorem own_l14 {f ee q : Int64} (k0 : q < f) : ¬ own_P1 f ee q := by simp only [own_P1, own_P2, Int64.lt_iff_toInt_lt] at *; omega
theorem own_l15 {f ee q : Int64} (k0 : ¬ q < f) (k1 : q < ee) : own_P1 f ee q := by simp only [own_P1, own_P2, Int64.lt_iff_toInt_lt] at *; omega
theorem own_l16 {f ee q : Int64} (k0 : ¬ q < f) (k1 : ¬ q < ee) : ¬ own_P1 f ee q := by simp only [own_P1, own_P2, Int64.lt_iff_toInt_lt] at *; omega
theorem own_l17 {f1 e1 f2 e2 f0 f9 e0 e9 q : Int64} (k0 : f1 < e1) (k1 : f2 < e2) (k2 : e0 < f9) (k3 : (f0.toInt = f1.toInt ∧ f1.toInt ≤ f2.toInt) ∨ (f0.toInt = f2.toInt ∧ f2.toInt ≤ f1.toInt)) (k4 : (f9.toInt = f2.toInt ∧ f1.toInt ≤ f2.toInt) ∨ (f9.toInt = f1.toInt ∧ f2.toInt ≤ f1.toInt)) (k5 : (e0.toInt = e1.toInt ∧ e1.toInt ≤ e2.toInt) ∨ (e0.toInt = e2.toInt ∧ e2.toInt ≤ e1.toInt)) (k6 : (e9.toInt = e2.toInt ∧ e1.toInt ≤ e2.toInt) ∨ (e9.toInt = e1.toInt ∧ e2.toInt ≤ e1.toInt)) (k7 : (e1 - (1 : Int64)).toInt = e1.toInt - 1) (k8 : (e2 - (1 : Int64)).toInt = e2.toInt - 1) (k9 : own_P1 f1 e1 q) : own_P2 f0 f9 e0 e9 q := by simp only [own_P1, own_P2, Int64.lt_iff_toInt_lt] at *; omega
theorem own_l18 {f1 e1 f2 e2 f0 f9 e0 e9 q : Int64} (k0 : f1 < e1) (k1 : f2 < e2) (k2 : e0 < f9) (k3 : (f0.toInt = f1.toInt ∧ f1.toInt ≤ f2.toInt) ∨ (f0.toInt = f2.toInt ∧ f2.toInt ≤ f1.toInt)) (k4 : (f9.toInt = f2.toInt ∧ f1.toInt ≤ f2.toInt) ∨ (f9.toInt = f1.toInt ∧ f2.toInt ≤ f1.toInt)) (k5 : (e0.toInt = e1.toInt ∧ e1.toInt ≤ e2.toInt) ∨ (e0.toInt = e2.toInt ∧ e2.toInt ≤ e1.toInt)) (k6 : (e9.toInt = e2.toInt ∧ e1.toInt ≤ e2.toInt) ∨ (e9.toInt = e1.toInt ∧ e2.toInt ≤ e1.toInt)) (k7 : (e1 - (1 : Int64)).toInt = e1.toInt - 1) (k8 : (e2 - (1 : Int64)).toInt = e2.toInt - 1) (k9 : own_P1 f1 e1 q) : own_P2 f0 f9 e0 e9 f1 := by simp only [own_P1, own_P2, Int64.lt_iff_toInt_lt] at *; omega
theorem own_l19 {f1 e1 f2 e2 f0 f9 e0 e9 q : Int64} (k0 : f1 < e1) (k1 : f2 < e2) (k2 : e0 < f9) (k3 : (f0.toInt = f1.toInt ∧ f1.toInt ≤ f2.toInt) ∨ (f0.toInt = f2.toInt ∧ f2.toInt ≤ f1.toInt)) (k4 : (f9.toInt = f2.toInt ∧ f1.toInt ≤ f2.toInt) ∨ (f9.toInt = f1.toInt ∧ f2.toInt ≤ f1.toInt)) (k5 : (e0.toInt = e1.toInt ∧ e1.toInt ≤ e2.toInt) ∨ (e0.toInt = e2.toInt ∧ e2.toInt ≤ e1.toInt)) (k6 : (e9.toInt = e2.toInt ∧ e1.toInt ≤ e2.toInt) ∨ (e9.toInt = e1.toInt ∧ e2.toInt ≤ e1.toInt)) (k7 : (e1 - (1 : Int64)).toInt = e1.toInt - 1) (k8 : (e2 - (1 : Int64)).toInt = e2.toInt - 1) (k9 : own_P1 f1 e1 q) : own_P2 f0 f9 e0 e9 (e1 - (1 : Int64)) := by simp only [own_P1, own_P2, Int64.lt_iff_toInt_lt] at *; omega
theorem own_l20 {f1 e1 f2 e2 f0 f9 e0 e9 q : Int64} (k0 : f1 < e1) (k1 : f2 < e2) (k2 : e0 < f9) (k3 : (f0.toInt = f1.toInt ∧ f1.toInt ≤ f2.toInt) ∨ (f0.toInt = f2.toInt ∧ f2.toInt ≤ f1.toInt)) (k4 : (f9.toInt = f2.toInt ∧ f1.toInt ≤ f2.toInt) ∨ (f9.toInt = f1.toInt ∧ f2.toInt ≤ f1.toInt)) (k5 : (e0.toInt = e1.toInt ∧ e1.toInt ≤ e2.toInt) ∨ (e0.toInt = e2.toInt ∧ e2.toInt ≤ e1.toInt)) (k6 : (e9.toInt = e2.toInt ∧ e1.toInt ≤ e2.toInt) ∨ (e9.toInt = e1.toInt ∧ e2.toInt ≤ e1.toInt)) (k7 : (e1 - (1 : Int64)).toInt = e1.toInt - 1) (k8 : (e2 - (1 : Int64)).toInt = e2.toInt - 1) (k9 : own_P1 f1 e1 q) : own_P2 f0 f9 e0 e9 f2 := by simp only [own_P1, own_P2, Int64.lt_iff_toInt_lt] at *; omega
theorem own_l21 {f1 e1 f2 e2 f0 f9 e0 e9 q : Int64} (k0 : f1 < e1) (k1 : f2 < e2) (k2 : e0 < f9) (k3 : (f0.toInt = f1.toInt ∧ f1.toInt ≤ f2.toInt) ∨ (f0.toInt = f2.toInt ∧ f2.toInt ≤ f1.toInt)) (k4 : (f9.toInt = f2.toInt ∧ f1.toInt ≤ f2.toInt) ∨ (f9.toInt = f1.toInt ∧ f2.toInt ≤ f1.toInt)) (k5 : (e0.toInt = e1.toInt ∧ e1.toInt ≤ e2.toInt) ∨ (e0.toInt = e2.toInt ∧ e2.toInt ≤ e1.toInt)) (k6 : (e9.toInt = e2.toInt ∧ e1.toInt ≤ e2.toInt) ∨ (e9.toInt = e1.toInt ∧ e2.toInt ≤ e1.toInt)) (k7 : (e1 - (1 : Int64)).toInt = e1.toInt - 1) (k8 : (e2 - (1 : Int64)).toInt = e2.toInt - 1) (k9 : own_P1 f1 e1 q) : own_P2 f0 f9 e0 e9 (e2 - (1 : Int64)) := by simp only [own_P1, own_P2, Int64.lt_iff_toInt_lt] at *; omega
theorem own_l22 {f1 e1 f2 e2 f0 f9 e0 e9 q : Int64} (k0 : f1 < e1) (k1 : f2 < e2) (k2 : e0 < f9) (k3 : (f0.toInt = f1.toInt ∧ f1.toInt ≤ f2.toInt) ∨ (f0.toInt = f2.toInt ∧ f2.toInt ≤ f1.toInt)) (k4 : (f9.toInt = f2.toInt ∧ f1.toInt ≤ f2.toInt) ∨ (f9.toInt = f1.toInt ∧ f2.toInt ≤ f1.toInt)) (k5 : (e0.toInt = e1.toInt ∧ e1.toInt ≤ e2.toInt) ∨ (e0.toInt = e2.toInt ∧ e2.toInt ≤ e1.toInt)) (k6 : (e9.toInt = e2.toInt ∧ e1.toInt ≤ e2.toInt) ∨ (e9.toInt = e1.toInt ∧ e2.toInt ≤ e1.toInt)) (k7 : (e1 - (1 : Int64)).toInt = e1.toInt - 1) (k8 : (e2 - (1 : Int64)).toInt = e2.toInt - 1) (k9 : ¬ own_P1 f1 e1 q) (k10 : own_P1 f2 e2 q) : own_P2 f0 f9 e0 e9 q := by simp only [own_P1, own_P2, Int64.lt_iff_toInt_lt] at *; omega
theorem own_l23 {f1 e1 f2 e2 f0 f9 e0 e9 q : Int64} (k0 : f1 < e1) (k1 : f2 < e2) (k2 : e0 < f9) (k3 : (f0.toInt = f1.toInt ∧ f1.toInt ≤ f2.toInt) ∨ (f0.toInt = f2.toInt ∧ f2.toInt ≤ f1.toInt)) (k4 : (f9.toInt = f2.toInt ∧ f1.toInt ≤ f2.toInt) ∨ (f9.toInt = f1.toInt ∧ f2.toInt ≤ f1.toInt)) (k5 : (e0.toInt = e1.toInt ∧ e1.toInt ≤ e2.toInt) ∨ (e0.toInt = e2.toInt ∧ e2.toInt ≤ e1.toInt)) (k6 : (e9.toInt = e2.toInt ∧ e1.toInt ≤ e2.toInt) ∨ (e9.toInt = e1.toInt ∧ e2.toInt ≤ e1.toInt)) (k7 : (e1 - (1 : Int64)).toInt = e1.toInt - 1) (k8 : (e2 - (1 : Int64)).toInt = e2.toInt - 1) (k9 : ¬ own_P1 f1 e1 q) (k10 : own_P1 f2 e2 q) : own_P2 f0 f9 e0 e9 f1 := by simp only [own_P1, own_P2, Int64.lt_iff_toInt_lt] at *; omega
theorem own_l24 {f1 e1 f2 e2 f0 f9 e0 e9 q : Int64} (k0 : f1 < e1) (k1 : f2 < e2) (k2 : e0 < f9) (k3 : (f0.toInt = f1.toInt ∧ f1.toInt ≤ f2.toInt) ∨ (f0.toInt = f2.toInt ∧ f2.toInt ≤ f1.toInt)) (k4 : (f9.toInt = f2.toInt ∧ f1.toInt ≤ f2.toInt) ∨ (f9.toInt = f1.toInt ∧ f2.toInt ≤ f1.toInt)) (k5 : (e0.toInt = e1.toInt ∧ e1.toInt ≤ e2.toInt) ∨ (e0.toInt = e2.toInt ∧ e2.toInt ≤ e1.toInt)) (k6 : (e9.toInt = e2.toInt ∧ e1.toInt ≤ e2.toInt) ∨ (e9.toInt = e1.toInt ∧ e2.toInt ≤ e1.toInt)) (k7 : (e1 - (1 : Int64)).toInt = e1.toInt - 1) (k8 : (e2 - (1 : Int64)).toInt = e2.toInt - 1) (k9 : ¬ own_P1 f1 e1 q) (k10 : own_P1 f2 e2 q) : own_P2 f0 f9 e0 e9 (e1 - (1 : Int64)) := by simp only [own_P1, own_P2, Int64.lt_iff_toInt_lt] at *; omega
theorem own_l25 {f1 e1 f2 e2 f0 f9 e0 e9 q : Int64} (k0 : f1 < e1) (k1 : f2 < e2) (k2 : e0 < f9) (k3 : (f0.toInt = f1.toInt ∧ f1.toInt ≤ f2.toInt) ∨ (f0.toInt = f2.toInt ∧ f2.toInt ≤ f1.toInt)) (k4 : (f9.toInt = f2.toInt ∧ f1.toInt ≤ f2.toInt) ∨ (f9.toInt = f1.toInt ∧ f2.toInt ≤ f1.toInt)) (k5 : (e0.toInt = e1.toInt ∧ e1.toInt ≤ e2.toInt) ∨ (e0.toInt = e2.toInt ∧ e2.toInt ≤ e1.toInt)) (k6 : (e9.toInt = e2.toInt ∧ e1.toInt ≤ e2.toInt) ∨ (e9.toInt = e1.toInt ∧ e2.toInt ≤ e1.toInt)) (k7 : (e1 - (1 : Int64)).toInt = e1.toInt - 1) (k8 : (e2 - (1 : Int64)).toInt = e2.toInt - 1) (k9 : ¬ own_P1 f1 e1 q) (k10 : own_P1 f2 e2 q) : own_P2 f0 f9 e0 e9 f2 := by simp only [own_P1, own_P2, Int64.lt_iff_toInt_lt] at *; omega
theorem own_l26 {f1 e1 f2 e2 f0 f9 e0 e9 q : Int64} (k0 : f1 < e1) (k1 : f2 < e2) (k2 : e0 < f9) (k3 : (f0.toInt = f1.toInt ∧ f1.toInt ≤ f2.toInt) ∨ (f0.toInt = f2.toInt ∧ f2.toInt ≤ f1.toInt)) (k4 : (f9.toInt = f2.toInt ∧ f1.toInt ≤ f2.toInt) ∨ (f9.toInt = f1.toInt ∧ f2.toInt ≤ f1.toInt)) (k5 : (e0.toInt = e1.toInt ∧ e1.toInt ≤ e2.toInt) ∨ (e0.toInt = e2.toInt ∧ e2.toInt ≤ e1.toInt)) (k6 : (e9.toInt = e2.toInt ∧ e1.toInt ≤ e2.toInt) ∨ (e9.toInt = e1.toInt ∧ e2.toInt ≤ e1.toInt)) (k7 : (e1 - (1 : Int64)).toInt = e1.toInt - 1) (k8 : (e2 - (1 : Int64)).toInt = e2.toInt - 1) (k9 : ¬ own_P1 f1 e1 q) (k10 : own_P1 f2 e2 q) : own_P2 f0 f9 e0 e9 (e2 - (1 : Int64)) := by simp only [own_P1, own_P2, Int64.lt_iff_toInt_lt] at *; omega
theorem own_l27 {f1 e1 f2 e2 f0 f9 e0 e9 q : Int64} (k0 : f1 < e1) (k1 : f2 < e2) (k2 : e0 < f9) (k3 : (f0.toInt = f1.toInt ∧ f1.toInt ≤ f2.toInt) ∨ (f0.toInt = f2.toInt ∧ f2.toInt ≤ f1.toInt)) (k4 : (f9.toInt = f2.toInt ∧ f1.toInt ≤ f2.toInt) ∨ (f9.toInt = f1.toInt ∧ f2.toInt ≤ f1.toInt)) (k5 : (e0.toInt = e1.toInt ∧ e1.toInt ≤ e2.toInt) ∨ (e0.toInt = e2.toInt ∧ e2.toInt ≤ e1.toInt)) (k6 : (e9.toInt = e2.toInt ∧ e1.toInt ≤ e2.toInt) ∨ (e9.toInt = e1.toInt ∧ e2.toInt ≤ e1.toInt)) (k7 : (e1 - (1 : Int64)).toInt = e1.toInt - 1) (k8 : (e2 - (1 : Int64)).toInt = e2.toInt - 1) (k9 : ¬ own_P1 f1 e1 q) (k10 : ¬ own_P1 f2 e2 q) : ¬ own_P2 f0 f9 e0 e9 q := by simp only [own_P1, own_P2, Int64.lt_iff_toInt_lt] at *; omega
theorem own_l28 {f1 e1 f2 e2 f0 f9 e0 e9 q : Int64} (k0 : f1 < e1) (k1 : f2 < e2) (k2 : e0 < f9) (k3 : (f0.toInt = f1.toInt ∧ f1.toInt ≤ f2.toInt) ∨ (f0.toInt = f2.toInt ∧ f2.toInt ≤ f1.toInt)) (k4 : (f9.toInt = f2.toInt ∧ f1.toInt ≤ f2.toInt) ∨ (f9.toInt = f1.toInt ∧ f2.toInt ≤ f1.toInt)) (k5 : (e0.toInt = e1.toInt ∧ e1.toInt ≤ e2.toInt) ∨ (e0.toInt = e2.toInt ∧ e2.toInt ≤ e1.toInt)) (k6 : (e9.toInt = e2.toInt ∧ e1.toInt ≤ e2.toInt) ∨ (e9.toInt = e1.toInt ∧ e2.toInt ≤ e1.toInt)) (k7 : (e1 - (1 : Int64)).toInt = e1.toInt - 1) (k8 : (e2 - (1 : Int64)).toInt = e2.toInt - 1) (k9 : ¬ own_P1 f1 e1 q) (k10 : ¬ own_P1 f2 e2 q) : own_P2 f0 f9 e0 e9 f1 := by simp only [own_P1, own_P2, Int64.lt_iff_toInt_lt] at *; omega
theorem own_l29 {f1 e1 f2 e2 f0 f9 e0 e9 q : Int64} (k0 : f1 < e1) (k1 : f2 < e2) (k2 : e0 < f9) (k3 : (f0.toInt = f1.toInt ∧ f1.toInt ≤ f2.toInt) ∨ (f0.toInt = f2.toInt ∧ f2.toInt ≤ f1.toInt)) (k4 : (f9.toInt = f2.toInt ∧ f1.toInt ≤ f2.toInt) ∨ (f9.toInt = f1.toInt ∧ f2.toInt ≤ f1.toInt)) (k5 : (e0.toInt = e1.toInt ∧ e1.toInt ≤ e2.toInt) ∨ (e0.toInt = e2.toInt ∧ e2.toInt ≤ e1.toInt)) (k6 : (e9.toInt = e2.toInt ∧ e1.toInt ≤ e2.toInt) ∨ (e9.toInt = e1.toInt ∧ e2.toInt ≤ e1.toInt)) (k7 : (e1 - (1 : Int64)).toInt = e1.toInt - 1) (k8 : (e2 - (1 : Int64)).toInt = e2.toInt - 1) (k9 : ¬ own_P1 f1 e1 q) (k10 : ¬ own_P1 f2 e2 q) : own_P2 f0 f9 e0 e9 (e1 - (1 : Int64)) := by simp only [own_P1, own_P2, Int64.lt_iff_toInt_lt] at *; omega
theorem own_l30 {f1 e1 f2 e2 f0 f9 e0 e9 q : Int64} (k0 : f1 < e1) (k1 : f2 < e2) (k2 : e0 < f9) (k3 : (f0.toInt = f1.toInt ∧ f1.toInt ≤ f2.toInt) ∨ (f0.toInt = f2.toInt ∧ f2.toInt ≤ f1.toInt)) (k4 : (f9.toInt = f2.toInt ∧ f1.toInt ≤ f2.toInt) ∨ (f9.toInt = f1.toInt ∧ f2.toInt ≤ f1.toInt)) (k5 : (e0.toInt = e1.toInt ∧ e1.toInt ≤ e2.toInt) ∨ (e0.toInt = e2.toInt ∧ e2.toInt ≤ e1.toInt)) (k6 : (e9.toInt = e2.toInt ∧ e1.toInt ≤ e2.toInt) ∨ (e9.toInt = e1.toInt ∧ e2.toInt ≤ e1.toInt)) (k7 : (e1 - (1 : Int64)).toInt = e1.toInt - 1) (k8 : (e2 - (1 : Int64)).toInt = e2.toInt - 1) (k9 : ¬ own_P1 f1 e1 q) (k10 : ¬ own_P1 f2 e2 q) : own_P2 f0 f9 e0 e9 f2 := by simp only [own_P1, own_P2, Int64.lt_iff_toInt_lt] at *; omega
theorem own_l31 {f1 e1 f2 e2 f0 f9 e0 e9 q : Int64} (k0 : f1 < e1) (k1 : f2 < e2) (k2 : e0 < f9) (k3 : (f0.toInt = f1.toInt ∧ f1.toInt ≤ f2.toInt) ∨ (f0.toInt = f2.toInt ∧ f2.toInt ≤ f1.toInt)) (k4 : (f9.toInt = f2.toInt ∧ f1.toInt ≤ f2.toInt) ∨ (f9.toInt = f1.toInt ∧ f2.toInt ≤ f1.toInt)) (k5 : (e0.toInt = e1.toInt ∧ e1.toInt ≤ e2.toInt) ∨ (e0.toInt = e2.toInt ∧ e2.toInt ≤ e1.toInt)) (k6 : (e9.toInt = e2.toInt ∧ e1.toInt ≤ e2.toInt) ∨ (e9.toInt = e1.toInt ∧ e2.toInt ≤ e1.toInt)) (k7 : (e1 - (1 : Int64)).toInt = e1.toInt - 1) (k8 : (e2 - (1 : Int64)).toInt = e2.toInt - 1) (k9 : ¬ own_P1 f1 e1 q) (k10 : ¬ own_P1 f2 e2 q) : own_P2 f0 f9 e0 e9 (e2 - (1 : Int64)) := by simp only [own_P1, own_P2, Int64.lt_iff_toInt_lt] at *; omega
theorem own_l32 {f1 e1 f2 e2 f0 f9 e0 e9 q : Int64} (k0 : f1 < e1) (k1 : f2 < e2) (k2 : ¬ e0 < f9) (k3 : (f0.toInt = f1.toInt ∧ f1.toInt ≤ f2.toInt) ∨ (f0.toInt = f2.toInt ∧ f2.toInt ≤ f1.toInt)) (k4 : (f9.toInt = f2.toInt ∧ f1.toInt ≤ f2.toInt) ∨ (f9.toInt = f1.toInt ∧ f2.toInt ≤ f1.toInt)) (k5 : (e0.toInt = e1.toInt ∧ e1.toInt ≤ e2.toInt) ∨ (e0.toInt = e2.toInt ∧ e2.toInt ≤ e1.toInt)) (k6 : (e9.toInt = e2.toInt ∧ e1.toInt ≤ e2.toInt) ∨ (e9.toInt = e1.toInt ∧ e2.toInt ≤ e1.toInt)) (k7 : (e1 - (1 : Int64)).toInt = e1.toInt - 1) (k8 : (e2 - (1 : Int64)).toInt = e2.toInt - 1) (k9 : own_P1 f1 e1 q) : own_P1 f0 e9 q := by simp only [own_P1, own_P2, Int64.lt_iff_toInt_lt] at *; omega
theorem own_l33 {f1 e1 f2 e2 f0 f9 e0 e9 q : Int64} (k0 : f1 < e1) (k1 : f2 < e2) (k2 : ¬ e0 < f9) (k3 : (f0.toInt = f1.toInt ∧ f1.toInt ≤ f2.toInt) ∨ (f0.toInt = f2.toInt ∧ f2.toInt ≤ f1.toInt)) (k4 : (f9.toInt = f2.toInt ∧ f1.toInt ≤ f2.toInt) ∨ (f9.toInt = f1.toInt ∧ f2.toInt ≤ f1.toInt)) (k5 : (e0.toInt = e1.toInt ∧ e1.toInt ≤ e2.toInt) ∨ (e0.toInt = e2.toInt ∧ e2.toInt ≤ e1.toInt)) (k6 : (e9.toInt = e2.toInt ∧ e1.toInt ≤ e2.toInt) ∨ (e9.toInt = e1.toInt ∧ e2.toInt ≤ e1.toInt)) (k7 : (e1 - (1 : Int64)).toInt = e1.toInt - 1) (k8 : (e2 - (1 : Int64)).toInt = e2.toInt - 1) (k9 : own_P1 f1 e1 q) : own_P1 f0 e9 f1 := by simp only [own_P1, own_P2, Int64.lt_iff_toInt_lt] at *; omega
theorem own_l34 {f1 e1 f2 e2 f0 f9 e0 e9 q : Int64} (k0 : f1 < e1) (k1 : f2 < e2) (k2 : ¬ e0 < f9) (k3 : (f0.toInt = f1.toInt ∧ f1.toInt ≤ f2.toInt) ∨ (f0.toInt = f2.toInt ∧ f2.toInt ≤ f1.toInt)) (k4 : (f9.toInt = f2.toInt ∧ f1.toInt ≤ f2.toInt) ∨ (f9.toInt = f1.toInt ∧ f2.toInt ≤ f1.toInt)) (k5 : (e0.toInt = e1.toInt ∧ e1.toInt ≤ e2.toInt) ∨ (e0.toInt = e2.toInt ∧ e2.toInt ≤ e1.toInt)) (k6 : (e9.toInt = e2.toInt ∧ e1.toInt ≤ e2.toInt) ∨ (e9.toInt = e1.toInt ∧ e2.toInt ≤ e1.toInt)) (k7 : (e1 - (1 : Int64)).toInt = e1.toInt - 1) (k8 : (e2 - (1 : Int64)).toInt = e2.toInt - 1) (k9 : own_P1 f1 e1 q) : own_P1 f0 e9 (e1 - (1 : Int64)) := by simp only [own_P1, own_P2, Int64.lt_iff_toInt_lt] at *; omega
theorem own_l35 {f1 e1 f2 e2 f0 f9 e0 e9 q : Int64} (k0 : f1 < e1) (k1 : f2 < e2) (k2 : ¬ e0 < f9) (k3 : (f0.toInt = f1.toInt ∧ f1.toInt ≤ f2.toInt) ∨ (f0.toInt = f2.toInt ∧ f2.toInt ≤ f1.toInt)) (k4 : (f9.toInt = f2.toInt ∧ f1.toInt ≤ f2.toInt) ∨ (f9.toInt = f1.toInt ∧ f2.toInt ≤ f1.toInt)) (k5 : (e0.toInt = e1.toInt ∧ e1.toInt ≤ e2.toInt) ∨ (e0.toInt = e2.toInt ∧ e2.toInt ≤ e1.toInt)) (k6 : (e9.toInt = e2.toInt ∧ e1.toInt ≤ e2.toInt) ∨ (e9.toInt = e1.toInt ∧ e2.toInt ≤ e1.toInt)) (k7 : (e1 - (1 : Int64)).toInt = e1.toInt - 1) (k8 : (e2 - (1 : Int64)).toInt = e2.toInt - 1) (k9 : own_P1 f1 e1 q) : own_P1 f0 e9 f2 := by simp only [own_P1, own_P2, Int64.lt_iff_toInt_lt] at *; omega
theorem own_l36 {f1 e1 f2 e2 f0 f9 e0 e9 q : Int64} (k0 : f1 < e1) (k1 : f2 < e2) (k2 : ¬ e0 < f9) (k3 : (f0.toInt = f1.toInt ∧ f1.toInt ≤ f2.toInt) ∨ (f0.toInt = f2.toInt ∧ f2.toInt ≤ f1.toInt)) (k4 : (f9.toInt = f2.toInt ∧ f1.toInt ≤ f2.toInt) ∨ (f9.toInt = f1.toInt ∧ f2.toInt ≤ f1.toInt)) (k5 : (e0.toInt = e1.toInt ∧ e1.toInt ≤ e2.toInt) ∨ (e0.toInt = e2.toInt ∧ e2.toInt ≤ e1.toInt)) (k6 : (e9.toInt = e2.toInt ∧ e1.toInt ≤ e2.toInt) ∨ (e9.toInt = e1.toInt ∧ e2.toInt ≤ e1.toInt)) (k7 : (e1 - (1 : Int64)).toInt = e1.toInt - 1) (k8 : (e2 - (1 : Int64)).toInt = e2.toInt - 1) (k9 : own_P1 f1 e1 q) : own_P1 f0 e9 (e2 - (1 : Int64)) := by simp only [own_P1, own_P2, Int64.lt_iff_toInt_lt] at *; omega
theorem own_l37 {f1 e1 f2 e2 f0 f9 e0 e9 q : Int64} (k0 : f1 < e1) (k1 : f2 < e2) (k2 : ¬ e0 < f9) (k3 : (f0.toInt = f1.toInt ∧ f1.toInt ≤ f2.toInt) ∨ (f0.toInt = f2.toInt ∧ f2.toInt ≤ f1.toInt)) (k4 : (f9.toInt = f2.toInt ∧ f1.toInt ≤ f2.toInt) ∨ (f9.toInt = f1.toInt ∧ f2.toInt ≤ f1.toInt)) (k5 : (e0.toInt = e1.toInt ∧ e1.toInt ≤ e2.toInt) ∨ (e0.toInt = e2.toInt ∧ e2.toInt ≤ e1.toInt)) (k6 : (e9.toInt = e2.toInt ∧ e1.toInt ≤ e2.toInt) ∨ (e9.toInt = e1.toInt ∧ e2.toInt ≤ e1.toInt)) (k7 : (e1 - (1 : Int64)).toInt = e1.toInt - 1) (k8 : (e2 - (1 : Int64)).toInt = e2.toInt - 1) (k9 : ¬ own_P1 f1 e1 q) (k10 : own_P1 f2 e2 q) : own_P1 f0 e9 q := by simp only [own_P1, own_P2, Int64.lt_iff_toInt_lt] at *; omega
theorem own_l38 {f1 e1 f2 e2 f0 f9 e0 e9 q : Int64} (k0 : f1 < e1) (k1 : f2 < e2) (k2 : ¬ e0 < f9) (k3 : (f0.toInt = f1.toInt ∧ f1.toInt ≤ f2.toInt) ∨ (f0.toInt = f2.toInt ∧ f2.toInt ≤ f1.toInt)) (k4 : (f9.toInt = f2.toInt ∧ f1.toInt ≤ f2.toInt) ∨ (f9.toInt = f1.toInt ∧ f2.toInt ≤ f1.toInt)) (k5 : (e0.toInt = e1.toInt ∧ e1.toInt ≤ e2.toInt) ∨ (e0.toInt = e2.toInt ∧ e2.toInt ≤ e1.toInt)) (k6 : (e9.toInt = e2.toInt ∧ e1.toInt ≤ e2.toInt) ∨ (e9.toInt = e1.toInt ∧ e2.toInt ≤ e1.toInt)) (k7 : (e1 - (1 : Int64)).toInt = e1.toInt - 1) (k8 : (e2 - (1 : Int64)).toInt = e2.toInt - 1) (k9 : ¬ own_P1 f1 e1 q) (k10 : own_P1 f2 e2 q) : own_P1 f0 e9 f1 := by simp only [own_P1, own_P2, Int64.lt_iff_toInt_lt] at *; omega
theorem own_l39 {f1 e1 f2 e2 f0 f9 e0 e9 q : Int64} (k0 : f1 < e1) (k1 : f2 < e2) (k2 : ¬ e0 < f9) (k3 : (f0.toInt = f1.toInt ∧ f1.toInt ≤ f2.toInt) ∨ (f0.toInt = f2.toInt ∧ f2.toInt ≤ f1.toInt)) (k4 : (f9.toInt = f2.toInt ∧ f1.toInt ≤ f2.toInt) ∨ (f9.toInt = f1.toInt ∧ f2.toInt ≤ f1.toInt)) (k5 : (e0.toInt = e1.toInt ∧ e1.toInt ≤ e2.toInt) ∨ (e0.toInt = e2.toInt ∧ e2.toInt ≤ e1.toInt)) (k6 : (e9.toInt = e2.toInt ∧ e1.toInt ≤ e2.toInt) ∨ (e9.toInt = e1.toInt ∧ e2.toInt ≤ e1.toInt)) (k7 : (e1 - (1 : Int64)).toInt = e1.toInt - 1) (k8 : (e2 - (1 : Int64)).toInt = e2.toInt - 1) (k9 : ¬ own_P1 f1 e1 q) (k10 : own_P1 f2 e2 q) : own_P1 f0 e9 (e1 - (1 : Int64)) := by simp only [own_P1, own_P2, Int64.lt_iff_toInt_lt] at *; omega
theorem own_l40 {f1 e1 f2 e2 f0 f9 e0 e9 q : Int64} (k0 : f1 < e1) (k1 : f2 < e2) (k2 : ¬ e0 < f9) (k3 : (f0.toInt = f1.toInt ∧ f1.toInt ≤ f2.toInt) ∨ (f0.toInt = f2.toInt ∧ f2.toInt ≤ f1.toInt)) (k4 : (f9.toInt = f2.toInt ∧ f1.toInt ≤ f2.toInt) ∨ (f9.toInt = f1.toInt ∧ f2.toInt ≤ f1.toInt)) (k5 : (e0.toInt = e1.toInt ∧ e1.toInt ≤ e2.toInt) ∨ (e0.toInt = e2.toInt ∧ e2.toInt ≤ e1.toInt)) (k6 : (e9.toInt = e2.toInt ∧ e1.toInt ≤ e2.toInt) ∨ (e9.toInt = e1.toInt ∧ e2.toInt ≤ e1.toInt)) (k7 : (e1 - (1 : Int64)).toInt = e1.toInt - 1) (k8 : (e2 - (1 : Int64)).toInt = e2.toInt - 1) (k9 : ¬ own_P1 f1 e1 q) (k10 : own_P1 f2 e2 q) : own_P1 f0 e9 f2 := by simp only [own_P1, own_P2, Int64.lt_iff_toInt_lt] at *; omega
theorem own_l41 {f1 e1 f2 e2 f0 f9 e0 e9 q : Int64} (k0 : f1 < e1) (k1 : f2 < e2) (k2 : ¬ e0 < f9) (k3 : (f0.toInt = f1.toInt ∧ f1.toInt ≤ f2.toInt) ∨ (f0.toInt = f2.toInt ∧ f2.toInt ≤ f1.toInt)) (k4 : (f9.toInt = f2.toInt ∧ f1.toInt ≤ f2.toInt) ∨ (f9.toInt = f1.toInt ∧ f2.toInt ≤ f1.toInt)) (k5 : (e0.toInt = e1.toInt ∧ e1.toInt ≤ e2.toInt) ∨ (e0.toInt = e2.toInt ∧ e2.toInt ≤ e1.toInt)) (k6 : (e9.toInt = e2.toInt ∧ e1.toInt ≤ e2.toInt) ∨ (e9.toInt = e1.toInt ∧ e2.toInt ≤ e1.toInt)) (k7 : (e1 - (1 : Int64)).toInt = e1.toInt - 1) (k8 : (e2 - (1 : Int64)).toInt = e2.toInt - 1) (k9 : ¬ own_P1 f1 e1 q) (k10 : own_P1 f2 e2 q) : own_P1 f0 e9 (e2 - (1 : Int64)) := by simp only [own_P1, own_P2, Int64.lt_iff_toInt_lt] at *; omega
theorem own_l42 {f1 e1 f2 e2 f0 f9 e0 e9 q : Int64} (k0 : f1 < e1) (k1 : f2 < e2) (k2 : ¬ e0 < f9) (k3 : (f0.toInt = f1.toInt ∧ f1.toInt ≤ f2.toInt) ∨ (f0.toInt = f2.toInt ∧ f2.toInt ≤ f1.toInt)) (k4 : (f9.toInt = f2.toInt ∧ f1.toInt ≤ f2.toInt) ∨ (f9.toInt = f1.toInt ∧ f2.toInt ≤ f1.toInt)) (k5 : (e0.toInt = e1.toInt ∧ e1.toInt ≤ e2.toInt) ∨ (e0.toInt = e2.toInt ∧ e2.toInt ≤ e1.toInt)) (k6 : (e9.toInt = e2.toInt ∧ e1.toInt ≤ e2.toInt) ∨ (e9.toInt = e1.toInt ∧ e2.toInt ≤ e1.toInt)) (k7 : (e1 - (1 : Int64)).toInt = e1.toInt - 1) (k8 : (e2 - (1 : Int64)).toInt = e2.toInt - 1) (k9 : ¬ own_P1 f1 e1 q) (k10 : ¬ own_P1 f2 e2 q) : ¬ own_P1 f0 e9 q := by simp only [own_P1, own_P2, Int64.lt_iff_toInt_lt] at *; omega
theorem own_l43 {f1 e1 f2 e2 f0 f9 e0 e9 q : Int64} (k0 : f1 < e1) (k1 : f2 < e2) (k2 : ¬ e0 < f9) (k3 : (f0.toInt = f1.toInt ∧ f1.toInt ≤ f2.toInt) ∨ (f0.toInt = f2.toInt ∧ f2.toInt ≤ f1.toInt)) (k4 : (f9.toInt = f2.toInt ∧ f1.toInt ≤ f2.toInt) ∨ (f9.toInt = f1.toInt ∧ f2.toInt ≤ f1.toInt)) (k5 : (e0.toInt = e1.toInt ∧ e1.toInt ≤ e2.toInt) ∨ (e0.toInt = e2.toInt ∧ e2.toInt ≤ e1.toInt)) (k6 : (e9.toInt = e2.toInt ∧ e1.toInt ≤ e2.toInt) ∨ (e9.toInt = e1.toInt ∧ e2.toInt ≤ e1.toInt)) (k7 : (e1 - (1 : Int64)).toInt = e1.toInt - 1) (k8 : (e2 - (1 : Int64)).toInt = e2.toInt - 1) (k9 : ¬ own_P1 f1 e1 q) (k10 : ¬ own_P1 f2 e2 q) : own_P1 f0 e9 f1 := by simp only [own_P1, own_P2, Int64.lt_iff_toInt_lt] at *; omega
theorem own_l44 {f1 e1 f2 e2 f0 f9 e0 e9 q : Int64} (k0 : f1 < e1) (k1 : f2 < e2) (k2 : ¬ e0 < f9) (k3 : (f0.toInt = f1.toInt ∧ f1.toInt ≤ f2.toInt) ∨ (f0.toInt = f2.toInt ∧ f2.toInt ≤ f1.toInt)) (k4 : (f9.toInt = f2.toInt ∧ f1.toInt ≤ f2.toInt) ∨ (f9.toInt = f1.toInt ∧ f2.toInt ≤ f1.toInt)) (k5 : (e0.toInt = e1.toInt ∧ e1.toInt ≤ e2.toInt) ∨ (e0.toInt = e2.toInt ∧ e2.toInt ≤ e1.toInt)) (k6 : (e9.toInt = e2.toInt ∧ e1.toInt ≤ e2.toInt) ∨ (e9.toInt = e1.toInt ∧ e2.toInt ≤ e1.toInt)) (k7 : (e1 - (1 : Int64)).toInt = e1.toInt - 1) (k8 : (e2 - (1 : Int64)).toInt = e2.toInt - 1) (k9 : ¬ own_P1 f1 e1 q) (k10 : ¬ own_P1 f2 e2 q) : own_P1 f0 e9 (e1 - (1 : Int64)) := by simp only [own_P1, own_P2, Int64.lt_iff_toInt_lt] at *; omega
theorem own_l45 {f1 e1 f2 e2 f0 f9 e0 e9 q : Int64} (k0 : f1 < e1) (k1 : f2 < e2) (k2 : ¬ e0 < f9) (k3 : (f0.toInt = f1.toInt ∧ f1.toInt ≤ f2.toInt) ∨ (f0.toInt = f2.toInt ∧ f2.toInt ≤ f1.toInt)) (k4 : (f9.toInt = f2.toInt ∧ f1.toInt ≤ f2.toInt) ∨ (f9.toInt = f1.toInt ∧ f2.toInt ≤ f1.toInt)) (k5 : (e0.toInt = e1.toInt ∧ e1.toInt ≤ e2.toInt) ∨ (e0.toInt = e2.toInt ∧ e2.toInt ≤ e1.toInt)) (k6 : (e9.toInt = e2.toInt ∧ e1.toInt ≤ e2.toInt) ∨ (e9.toInt = e1.toInt ∧ e2.toInt ≤ e1.toInt)) (k7 : (e1 - (1 : Int64)).toInt = e1.toInt - 1) (k8 : (e2 - (1 : Int64)).toInt = e2.toInt - 1) (k9 : ¬ own_P1 f1 e1 q) (k10 : ¬ own_P1 f2 e2 q) : own_P1 f0 e9 f2 := by simp only [own_P1, own_P2, Int64.lt_iff_toInt_lt] at *; omega
theorem own_l46 {f1 e1 f2 e2 f0 f9 e0 e9 q : Int64} (k0 : f1 < e1) (k1 : f2 < e2) (k2 : ¬ e0 < f9) (k3 : (f0.toInt = f1.toInt ∧ f1.toInt ≤ f2.toInt) ∨ (f0.toInt = f2.toInt ∧ f2.toInt ≤ f1.toInt)) (k4 : (f9.toInt = f2.toInt ∧ f1.toInt ≤ f2.toInt) ∨ (f9.toInt = f1.toInt ∧ f2.toInt ≤ f1.toInt)) (k5 : (e0.toInt = e1.toInt ∧ e1.toInt ≤ e2.toInt) ∨ (e0.toInt = e2.toInt ∧ e2.toInt ≤ e1.toInt)) (k6 : (e9.toInt = e2.toInt ∧ e1.toInt ≤ e2.toInt) ∨ (e9.toInt = e1.toInt ∧ e2.toInt ≤ e1.toInt)) (k7 : (e1 - (1 : Int64)).toInt = e1.toInt - 1) (k8 : (e2 - (1 : Int64)).toInt = e2.toInt - 1) (k9 : ¬ own_P1 f1 e1 q) (k10 : ¬ own_P1 f2 e2 q) : own_P1 f0 e9 (e2 - (1 : Int64)) := by simp only [own_P1, own_P2, Int64.lt_iff_toInt_lt] at *; omega
set_option maxRecDepth 65536 in
set_option maxHeartbeats 40000000 in
theorem cMin (l : Launch) (Z : State) (a0 : Array Value) (hw : ∀ d ∈ tables_1, d.before a0 Z = true) (ws : List Jvm.Cond) (x y : Int64) (h0 : Heap) (n0 : Nat) (Z0 : n0 ≤ h0.size)  :
    Con l (⟨"java/lang/Math", "min", "(JJ)J"⟩ : MethodName) jdk_29_method_70_code 4 (some .long) ws ({ frames := 0, cells := 0, slots := 0, locals := 0 } : Room) Z #[(.long x), (.long y)] h0 (fun v h L => v = some (.long (own_mn x y)) ∧ L = [] ∧ h = h0) 0 0 := by
  refine enter (Jvm.Free.JP.mathPlain rfl (by decide +kernel)) ?_
  intro p e s m below meth c s₁ hnm hret hlk D0
  rw [ef_cMin m x y]
  refine g_lloadN D0 1 d_jdk_29m70_0 rfl rfl ?_
  refine g_lloadN D0 2 d_jdk_29m70_1 rfl rfl ?_
  refine g_lcmp D0 3 d_jdk_29m70_2 rfl ?_
  by_cases hc : y < x
  · refine g_ifY D0 10 d_jdk_29m70_3 (tlt (cgt_t hc)).2.2.1 (by decide) (by decide) ?_
    refine g_lloadN D0 11 d_jdk_29m70_10 rfl rfl ?_
    exact r_J D0 hret hlk d_jdk_29m70_11 ⟨by simp [own_mn, hc], rfl, rfl⟩ (by decide) (by decide)
  · refine g_ifN D0 6 d_jdk_29m70_3 (flt (cgt_f hc)).2.2.1 rfl ?_
    refine g_lloadN D0 7 d_jdk_29m70_6 rfl rfl ?_
    refine g_goto D0 11 d_jdk_29m70_7 (by decide) (by decide) ?_
    exact r_J D0 hret hlk d_jdk_29m70_11 ⟨by simp [own_mn, hc], rfl, rfl⟩ (by decide) (by decide)

set_option maxRecDepth 65536 in
set_option maxHeartbeats 40000000 in
theorem cMax (l : Launch) (Z : State) (a0 : Array Value) (hw : ∀ d ∈ tables_1, d.before a0 Z = true) (ws : List Jvm.Cond) (x y : Int64) (h0 : Heap) (n0 : Nat) (Z0 : n0 ≤ h0.size)  :
    Con l (⟨"java/lang/Math", "max", "(JJ)J"⟩ : MethodName) jdk_29_method_66_code 4 (some .long) ws ({ frames := 0, cells := 0, slots := 0, locals := 0 } : Room) Z #[(.long x), (.long y)] h0 (fun v h L => v = some (.long (own_mx x y)) ∧ L = [] ∧ h = h0) 0 0 := by
  refine enter (Jvm.Free.JP.mathPlain rfl (by decide +kernel)) ?_
  intro p e s m below meth c s₁ hnm hret hlk D0
  rw [ef_cMax m x y]
  refine g_lloadN D0 1 d_jdk_29m66_0 rfl rfl ?_
  refine g_lloadN D0 2 d_jdk_29m66_1 rfl rfl ?_
  refine g_lcmp D0 3 d_jdk_29m66_2 rfl ?_
  by_cases hc : x < y
  · refine g_ifY D0 10 d_jdk_29m66_3 (tlt (clt_t hc)).1 (by decide) (by decide) ?_
    refine g_lloadN D0 11 d_jdk_29m66_10 rfl rfl ?_
    exact r_J D0 hret hlk d_jdk_29m66_11 ⟨by simp [own_mx, hc], rfl, rfl⟩ (by decide) (by decide)
  · refine g_ifN D0 6 d_jdk_29m66_3 (flt (clt_f hc)).1 rfl ?_
    refine g_lloadN D0 7 d_jdk_29m66_6 rfl rfl ?_
    refine g_goto D0 11 d_jdk_29m66_7 (by decide) (by decide) ?_
    exact r_J D0 hret hlk d_jdk_29m66_11 ⟨by simp [own_mx, hc], rfl, rfl⟩ (by decide) (by decide)

set_option maxRecDepth 65536 in
set_option maxHeartbeats 40000000 in
theorem cMinI (l : Launch) (Z : State) (a0 : Array Value) (hw : ∀ d ∈ tables_1, d.before a0 Z = true) (ws : List Jvm.Cond) (x y : Int32) (h0 : Heap) (n0 : Nat) (Z0 : n0 ≤ h0.size)  :
    Con l (⟨"java/lang/Math", "min", "(II)I"⟩ : MethodName) jdk_29_method_69_code 2 (some .int) ws ({ frames := 0, cells := 0, slots := 0, locals := 0 } : Room) Z #[(.int x), (.int y)] h0 (fun v h L => v = some (.int (own_mnI x y)) ∧ L = [] ∧ h = h0) 0 0 := by
  refine enter (Jvm.Free.JP.mathPlain rfl (by decide +kernel)) ?_
  intro p e s m below meth c s₁ hnm hret hlk D0
  rw [ef_cMinI m x y]
  refine g_iloadN D0 1 d_jdk_29m69_0 rfl rfl ?_
  refine g_iloadN D0 2 d_jdk_29m69_1 rfl rfl ?_
  by_cases hc : y < x
  · refine g_icmpY D0 9 d_jdk_29m69_2 (tlt hc).2.2.1 (by decide) (by decide) ?_
    refine g_iloadN D0 10 d_jdk_29m69_9 rfl rfl ?_
    exact r_I D0 hret hlk d_jdk_29m69_10 ⟨by simp [own_mnI, hc], rfl, rfl⟩ (by decide) (by decide)
  · refine g_icmpN D0 5 d_jdk_29m69_2 (flt hc).2.2.1 rfl ?_
    refine g_iloadN D0 6 d_jdk_29m69_5 rfl rfl ?_
    refine g_goto D0 10 d_jdk_29m69_6 (by decide) (by decide) ?_
    exact r_I D0 hret hlk d_jdk_29m69_10 ⟨by simp [own_mnI, hc], rfl, rfl⟩ (by decide) (by decide)

def Q_cBI (Z : State) (b : Addr) (h0 : Heap) (n0 : Nat) : Option Value → Heap → List Loc → Prop := (fun v h L => v = none ∧ Fr n0 L ∧ Keep h0 h [b] ∧ Exa Z h b "com/example/twelfths/twelfths/grid/HourSet$Builder" ∧ Fld Z h b "com/example/twelfths/twelfths/grid/HourSet$Builder" "size" "I" (.int (0 : Int32)) ∧ ∃ (a1 a2 : Addr) (k1 k2 : ClassId), h0.size ≤ a1 ∧ a1 < a2 ∧ Fld Z h b "com/example/twelfths/twelfths/grid/HourSet$Builder" "firsts" "[J" (.ref a1) ∧ Fld Z h b "com/example/twelfths/twelfths/grid/HourSet$Builder" "ends" "[J" (.ref a2) ∧ Arv Z h a1 k1 .long 16 [(.long (0 : Int64)), (.long (0 : Int64))] (.long (0 : Int64)) ∧ Arv Z h a2 k2 .long 16 [(.long (0 : Int64)), (.long (0 : Int64))] (.long (0 : Int64)))
set_option maxRecDepth 65536 in
set_option maxHeartbeats 40000000 in
theorem cBI (l : Launch) (Z : State) (a0 : Array Value) (hw : ∀ d ∈ tables_1, d.before a0 Z = true) (ws : List Jvm.Cond) (b : Addr) (h0 : Heap) (n0 : Nat) (Z0 : n0 ≤ h0.size) (E_b : Exa Z h0 b "com/example/twelfths/twelfths/grid/HourSet$Builder") (F1 : Fld Z h0 b "com/example/twelfths/twelfths/grid/HourSet$Builder" "firsts" "[J" .null) (F2 : Fld Z h0 b "com/example/twelfths/twelfths/grid/HourSet$Builder" "ends" "[J" .null) (F3 : Fld Z h0 b "com/example/twelfths/twelfths/grid/HourSet$Builder" "size" "I" (.int (0 : Int32))) (gb : n0 ≤ b) :
    Con l (⟨"com/example/twelfths/twelfths/grid/HourSet$Builder", "<init>", "()V"⟩ : MethodName) prog_16_method_1_code 1 none ws ({ frames := 1, cells := 2, slots := 32, locals := 12 } : Room) Z #[(.ref b)] h0 (Q_cBI Z b h0 n0) 2 32 := by
  refine enter (plainFor_of_name pn_0) ?_
  intro p e s m below meth c s₁ hnm hret hlk D0
  rw [ef_cBI m b]
  refine g_aloadN D0 1 d_prog_16m1_0 rfl rfl rfl ?_
  refine g_initO D0 4 (hw _ w_13) (hw _ w_14) (hw _ w_15) rfl d_prog_16m1_1 (by decide) (W := 0) (Nat.le_of_eq rfl) (by decide) rfl ?_
  intro T101 D101
  refine g_aloadN D101 5 d_prog_16m1_4 rfl rfl rfl ?_
  refine g_bipush D101 7 (16 : Int32) d_prog_16m1_5 rfl rfl ?_
  refine g_newP D101 9 (aty := .long) (hw _ w_16) d_prog_16m1_7 (by decide) (cap := 16) (by decide) (by decide) (by decide) (by decide) (fun _ _ => trivial) rfl ?_
  intro T102 h102 a102 k102 g102 E102 V102 D102
  have V102' : Arv Z h102 a102 k102 .long (16 : Int32) [(.long (0 : Int64)), (.long (0 : Int64))] (.long (0 : Int64)) := V102.pad (pad_rep [] (.long (0 : Int64)) 2)
  refine g_putF D102 12 (hw _ w_17) Via.refl (F1.ext E102) (E_b.ext E102) (Or.inl (hw _ w_18)) (hw _ w_8) (ty := (.array .long)) (by decide) rfl rfl (fun _ _ => trivial) d_prog_16m1_9 rfl ?_
  intro T103 h103 W103 D103
  have N103 := Fr.snoc D103.st (Fr.nil n0) gb
  have F103 := (F1.ext E102).same W103
  refine g_aloadN D103 13 d_prog_16m1_12 rfl rfl rfl ?_
  refine g_bipush D103 15 (16 : Int32) d_prog_16m1_13 rfl rfl ?_
  refine g_newP D103 17 (aty := .long) (hw _ w_16) d_prog_16m1_15 (by decide) (cap := 16) (by decide) (by decide) (by decide) (by decide) (fun _ _ => trivial) rfl ?_
  intro T104 h104 a104 k104 g104 E104 V104 D104
  have V104' : Arv Z h104 a104 k104 .long (16 : Int32) [(.long (0 : Int64)), (.long (0 : Int64))] (.long (0 : Int64)) := V104.pad (pad_rep [] (.long (0 : Int64)) 2)
  refine g_putF D104 20 (hw _ w_19) Via.refl (((F2.ext E102).other W103 (Or.inr (slot_ne (Or.inl (hw _ w_20)) (Or.inl (hw _ w_18)) (by decide) (t := (.array .long)) (t' := (.array .long)) (by decide) (by decide)))).ext E104) (((E_b.ext E102).wr W103).ext E104) (Or.inl (hw _ w_20)) (hw _ w_8) (ty := (.array .long)) (by decide) rfl rfl (fun _ _ => trivial) d_prog_16m1_17 rfl ?_
  intro T105 h105 W105 D105
  have N105 := Fr.snoc D105.st N103 gb
  have F105 := (((F2.ext E102).other W103 (Or.inr (slot_ne (Or.inl (hw _ w_20)) (Or.inl (hw _ w_18)) (by decide) (t := (.array .long)) (t' := (.array .long)) (by decide) (by decide)))).ext E104).same W105
  have ha12 : a102 < a104 := Nat.lt_of_lt_of_le (V102'.other W103 (Ne.symm (Nat.ne_of_lt (Nat.lt_of_lt_of_le E_b.lt (Nat.le_of_eq g102.symm))))).lt (Nat.le_of_eq g104.symm)
  exact r_V D105 hret hlk d_prog_16m1_20 ⟨rfl, N105, (((((Keep.refl _ [b]).ext E102).wr W103 (Or.inl (List.mem_of_getElem? (i := 0) rfl))).ext E104).wr W105 (Or.inl (List.mem_of_getElem? (i := 0) rfl))), ((((E_b.ext E102).wr W103).ext E104).wr W105), ((((F3.ext E102).other W103 (Or.inr (slot_ne (Or.inl (hw _ w_27)) (Or.inl (hw _ w_18)) (by decide) (t := .int) (t' := (.array .long)) (by decide) (by decide)))).ext E104).other W105 (Or.inr (slot_ne (Or.inl (hw _ w_27)) (Or.inl (hw _ w_20)) (by decide) (t := .int) (t' := (.array .long)) (by decide) (by decide)))), a102, a104, _, _, (Nat.le_trans (Nat.le_refl _) (Nat.le_of_eq g102.symm)), ha12, ((F103.ext E104).other W105 (Or.inr (slot_ne (Or.inl (hw _ w_18)) (Or.inl (hw _ w_20)) (by decide) (t := (.array .long)) (t' := (.array .long)) (by decide) (by decide)))), F105, (((V102'.other W103 (Ne.symm (Nat.ne_of_lt (Nat.lt_of_lt_of_le E_b.lt (Nat.le_of_eq g102.symm))))).ext E104).other W105 (Ne.symm (Nat.ne_of_lt (Nat.lt_of_lt_of_le E_b.lt (Nat.le_of_eq g102.symm))))), (V104'.other W105 (Ne.symm (Nat.ne_of_lt (Nat.lt_of_lt_of_le (Nat.lt_of_lt_of_le (Nat.lt_of_lt_of_le E_b.lt E102.1) (Keep.of_wr W103).1) (Nat.le_of_eq g104.symm)))))⟩ (by decide) (by decide)

def Q_cA0 (Z : State) (b a1 a2 : Addr) (k1 k2 : ClassId) (f ee u0 u1 x0 x1 : Int64) (h0 : Heap) (n0 : Nat) : Option Value → Heap → List Loc → Prop := (fun v h L => v = some (.ref b) ∧ Fr n0 L ∧ Keep h0 h [b, a1, a2] ∧ Exa Z h b "com/example/twelfths/twelfths/grid/HourSet$Builder" ∧ Fld Z h b "com/example/twelfths/twelfths/grid/HourSet$Builder" "firsts" "[J" (.ref a1) ∧ Fld Z h b "com/example/twelfths/twelfths/grid/HourSet$Builder" "ends" "[J" (.ref a2) ∧ Fld Z h b "com/example/twelfths/twelfths/grid/HourSet$Builder" "size" "I" (.int (1 : Int32)) ∧ Arv Z h a1 k1 .long 16 [(.long f), (.long u1)] (.long (0 : Int64)) ∧ Arv Z h a2 k2 .long 16 [(.long ee), (.long x1)] (.long (0 : Int64)))
set_option maxRecDepth 65536 in
set_option maxHeartbeats 40000000 in
theorem cA0 (l : Launch) (Z : State) (a0 : Array Value) (hw : ∀ d ∈ tables_1, d.before a0 Z = true) (ws : List Jvm.Cond) (b a1 a2 : Addr) (k1 k2 : ClassId) (f ee u0 u1 x0 x1 : Int64) (h0 : Heap) (n0 : Nat) (Z0 : n0 ≤ h0.size) (E_b : Exa Z h0 b "com/example/twelfths/twelfths/grid/HourSet$Builder") (F1 : Fld Z h0 b "com/example/twelfths/twelfths/grid/HourSet$Builder" "firsts" "[J" (.ref a1)) (F2 : Fld Z h0 b "com/example/twelfths/twelfths/grid/HourSet$Builder" "ends" "[J" (.ref a2)) (F3 : Fld Z h0 b "com/example/twelfths/twelfths/grid/HourSet$Builder" "size" "I" (.int (0 : Int32))) (V1 : Arv Z h0 a1 k1 .long 16 [(.long u0), (.long u1)] (.long (0 : Int64))) (V2 : Arv Z h0 a2 k2 .long 16 [(.long x0), (.long x1)] (.long (0 : Int64))) (n12 : a1 ≠ a2) (nb1 : b ≠ a1) (nb2 : b ≠ a2) (gb : n0 ≤ b) (g1 : n0 ≤ a1) (g2 : n0 ≤ a2) (hfe : f < ee) :
    Con l (⟨"com/example/twelfths/twelfths/grid/HourSet$Builder", "add", "(JJ)Lcom/example/twelfths/twelfths/grid/HourSet$Builder;"⟩ : MethodName) prog_16_method_2_code 5 (some (.object "com/example/twelfths/twelfths/grid/HourSet$Builder")) ws ({ frames := 0, cells := 0, slots := 0, locals := 0 } : Room) Z #[(.ref b), (.long f), (.long ee)] h0 (Q_cA0 Z b a1 a2 k1 k2 f ee u0 u1 x0 x1 h0 n0) 0 0 := by
  refine enter (plainFor_of_name pn_0) ?_
  intro p e s m below meth c s₁ hnm hret hlk D0
  rw [ef_cA0 m b f ee]
  refine g_lloadN D0 1 d_prog_16m2_0 rfl rfl ?_
  refine g_lloadN D0 2 d_prog_16m2_1 rfl rfl ?_
  refine g_lcmp D0 3 d_prog_16m2_2 rfl ?_
  refine g_ifY D0 21 d_prog_16m2_3 (tlt (cgt_t hfe)).2.2.1 (by decide) (by decide) ?_
  refine g_aloadN D0 22 d_prog_16m2_21 rfl rfl rfl ?_
  refine g_getF D0 25 (hw _ w_26) Via.refl F3 d_prog_16m2_22 rfl ?_
  intro T106 D106
  refine g_aloadN D106 26 d_prog_16m2_25 rfl rfl rfl ?_
  refine g_getF D106 29 (hw _ w_17) Via.refl F1 d_prog_16m2_26 rfl ?_
  intro T107 D107
  refine g_alen D107 30 V1 d_prog_16m2_29 rfl ?_
  refine g_icmpY D107 67 d_prog_16m2_30 (by decide) (by decide) (by decide) ?_
  refine g_aloadN D107 68 d_prog_16m2_67 rfl rfl rfl ?_
  refine g_getF D107 71 (hw _ w_17) Via.refl F1 d_prog_16m2_68 rfl ?_
  intro T108 D108
  refine g_aloadN D108 72 d_prog_16m2_71 rfl rfl rfl ?_
  refine g_getF D108 75 (hw _ w_26) Via.refl F3 d_prog_16m2_72 rfl ?_
  intro T109 D109
  refine g_lloadN D109 76 d_prog_16m2_75 rfl rfl ?_
  refine g_lastore D109 77 V1 ⟨by decide, by decide⟩ 0 (by decide) (Nat.le_of_ble_eq_true rfl) (fun _ _ => trivial) d_prog_16m2_76 rfl ?_
  intro T110 h110 W110 V110 D110
  replace V110 : Arv Z h110 a1 k1 .long (16 : Int32) [(.long f), (.long u1)] (.long (0 : Int64)) := V110
  have N110 := Fr.snoc D110.st (Fr.nil n0) g1
  refine g_aloadN D110 78 d_prog_16m2_77 rfl rfl rfl ?_
  refine g_getF D110 81 (hw _ w_19) Via.refl (F2.other W110 (Or.inl nb1)) d_prog_16m2_78 rfl ?_
  intro T111 D111
  refine g_aloadN D111 82 d_prog_16m2_81 rfl rfl rfl ?_
  refine g_getF D111 85 (hw _ w_26) Via.refl (F3.other W110 (Or.inl nb1)) d_prog_16m2_82 rfl ?_
  intro T112 D112
  refine g_lloadN D112 86 d_prog_16m2_85 rfl rfl ?_
  refine g_lastore D112 87 (V2.other W110 (Ne.symm n12)) ⟨by decide, by decide⟩ 0 (by decide) (Nat.le_of_ble_eq_true rfl) (fun _ _ => trivial) d_prog_16m2_86 rfl ?_
  intro T113 h113 W113 V113 D113
  replace V113 : Arv Z h113 a2 k2 .long (16 : Int32) [(.long ee), (.long x1)] (.long (0 : Int64)) := V113
  have N113 := Fr.snoc D113.st N110 g2
  refine g_aloadN D113 88 d_prog_16m2_87 rfl rfl rfl ?_
  refine g_dup D113 89 d_prog_16m2_88 rfl rfl ?_
  refine g_getF D113 92 (hw _ w_26) Via.refl ((F3.other W110 (Or.inl nb1)).other W113 (Or.inl nb2)) d_prog_16m2_89 rfl ?_
  intro T114 D114
  refine g_iconst D114 93 (1 : Int32) d_prog_16m2_92 rfl rfl ?_
  refine g_iadd D114 94 d_prog_16m2_93 rfl ?_
  rw [show ((0 : Int32) + (1 : Int32)) = (1 : Int32) from by decide]
  refine g_putF D114 97 (hw _ w_26) Via.refl ((F3.other W110 (Or.inl nb1)).other W113 (Or.inl nb2)) ((E_b.wr W110).wr W113) (Or.inl (hw _ w_27)) (hw _ w_8) (ty := .int) (by decide) rfl rfl (fun _ _ => trivial) d_prog_16m2_94 rfl ?_
  intro T115 h115 W115 D115
  have N115 := Fr.snoc D115.st N113 gb
  have F115 := ((F3.other W110 (Or.inl nb1)).other W113 (Or.inl nb2)).same W115
  refine g_aloadN D115 98 d_prog_16m2_97 rfl rfl rfl ?_
  exact r_A D115 hret rfl rfl hlk d_prog_16m2_98 ⟨rfl, N115, ((((Keep.refl _ [b, a1, a2]).wr W110 (Or.inl (List.mem_of_getElem? (i := 1) rfl))).wr W113 (Or.inl (List.mem_of_getElem? (i := 2) rfl))).wr W115 (Or.inl (List.mem_of_getElem? (i := 0) rfl))), (((E_b.wr W110).wr W113).wr W115), (((F1.other W110 (Or.inl nb1)).other W113 (Or.inl nb2)).other W115 (Or.inr (slot_ne (Or.inl (hw _ w_18)) (Or.inl (hw _ w_27)) (by decide) (t := (.array .long)) (t' := .int) (by decide) (by decide)))), (((F2.other W110 (Or.inl nb1)).other W113 (Or.inl nb2)).other W115 (Or.inr (slot_ne (Or.inl (hw _ w_20)) (Or.inl (hw _ w_27)) (by decide) (t := (.array .long)) (t' := .int) (by decide) (by decide)))), F115, ((V110.other W113 n12).other W115 (Ne.symm nb1)), (V113.other W115 (Ne.symm nb2))⟩ (by decide) (by decide)

def Q_cA1 (Z : State) (b a1 a2 : Addr) (k1 k2 : ClassId) (f ee u0 u1 x0 x1 : Int64) (h0 : Heap) (n0 : Nat) : Option Value → Heap → List Loc → Prop := (fun v h L => v = some (.ref b) ∧ Fr n0 L ∧ Keep h0 h [b, a1, a2] ∧ Exa Z h b "com/example/twelfths/twelfths/grid/HourSet$Builder" ∧ Fld Z h b "com/example/twelfths/twelfths/grid/HourSet$Builder" "firsts" "[J" (.ref a1) ∧ Fld Z h b "com/example/twelfths/twelfths/grid/HourSet$Builder" "ends" "[J" (.ref a2) ∧ Fld Z h b "com/example/twelfths/twelfths/grid/HourSet$Builder" "size" "I" (.int (2 : Int32)) ∧ Arv Z h a1 k1 .long 16 [(.long u0), (.long f)] (.long (0 : Int64)) ∧ Arv Z h a2 k2 .long 16 [(.long x0), (.long ee)] (.long (0 : Int64)))
set_option maxRecDepth 65536 in
set_option maxHeartbeats 40000000 in
theorem cA1 (l : Launch) (Z : State) (a0 : Array Value) (hw : ∀ d ∈ tables_1, d.before a0 Z = true) (ws : List Jvm.Cond) (b a1 a2 : Addr) (k1 k2 : ClassId) (f ee u0 u1 x0 x1 : Int64) (h0 : Heap) (n0 : Nat) (Z0 : n0 ≤ h0.size) (E_b : Exa Z h0 b "com/example/twelfths/twelfths/grid/HourSet$Builder") (F1 : Fld Z h0 b "com/example/twelfths/twelfths/grid/HourSet$Builder" "firsts" "[J" (.ref a1)) (F2 : Fld Z h0 b "com/example/twelfths/twelfths/grid/HourSet$Builder" "ends" "[J" (.ref a2)) (F3 : Fld Z h0 b "com/example/twelfths/twelfths/grid/HourSet$Builder" "size" "I" (.int (1 : Int32))) (V1 : Arv Z h0 a1 k1 .long 16 [(.long u0), (.long u1)] (.long (0 : Int64))) (V2 : Arv Z h0 a2 k2 .long 16 [(.long x0), (.long x1)] (.long (0 : Int64))) (n12 : a1 ≠ a2) (nb1 : b ≠ a1) (nb2 : b ≠ a2) (gb : n0 ≤ b) (g1 : n0 ≤ a1) (g2 : n0 ≤ a2) (hfe : f < ee) :
    Con l (⟨"com/example/twelfths/twelfths/grid/HourSet$Builder", "add", "(JJ)Lcom/example/twelfths/twelfths/grid/HourSet$Builder;"⟩ : MethodName) prog_16_method_2_code 5 (some (.object "com/example/twelfths/twelfths/grid/HourSet$Builder")) ws ({ frames := 0, cells := 0, slots := 0, locals := 0 } : Room) Z #[(.ref b), (.long f), (.long ee)] h0 (Q_cA1 Z b a1 a2 k1 k2 f ee u0 u1 x0 x1 h0 n0) 0 0 := by
  refine enter (plainFor_of_name pn_0) ?_
  intro p e s m below meth c s₁ hnm hret hlk D0
  rw [ef_cA1 m b f ee]
  refine g_lloadN D0 1 d_prog_16m2_0 rfl rfl ?_
  refine g_lloadN D0 2 d_prog_16m2_1 rfl rfl ?_
  refine g_lcmp D0 3 d_prog_16m2_2 rfl ?_
  refine g_ifY D0 21 d_prog_16m2_3 (tlt (cgt_t hfe)).2.2.1 (by decide) (by decide) ?_
  refine g_aloadN D0 22 d_prog_16m2_21 rfl rfl rfl ?_
  refine g_getF D0 25 (hw _ w_26) Via.refl F3 d_prog_16m2_22 rfl ?_
  intro T116 D116
  refine g_aloadN D116 26 d_prog_16m2_25 rfl rfl rfl ?_
  refine g_getF D116 29 (hw _ w_17) Via.refl F1 d_prog_16m2_26 rfl ?_
  intro T117 D117
  refine g_alen D117 30 V1 d_prog_16m2_29 rfl ?_
  refine g_icmpY D117 67 d_prog_16m2_30 (by decide) (by decide) (by decide) ?_
  refine g_aloadN D117 68 d_prog_16m2_67 rfl rfl rfl ?_
  refine g_getF D117 71 (hw _ w_17) Via.refl F1 d_prog_16m2_68 rfl ?_
  intro T118 D118
  refine g_aloadN D118 72 d_prog_16m2_71 rfl rfl rfl ?_
  refine g_getF D118 75 (hw _ w_26) Via.refl F3 d_prog_16m2_72 rfl ?_
  intro T119 D119
  refine g_lloadN D119 76 d_prog_16m2_75 rfl rfl ?_
  refine g_lastore D119 77 V1 ⟨by decide, by decide⟩ 1 (by decide) (Nat.le_of_ble_eq_true rfl) (fun _ _ => trivial) d_prog_16m2_76 rfl ?_
  intro T120 h120 W120 V120 D120
  replace V120 : Arv Z h120 a1 k1 .long (16 : Int32) [(.long u0), (.long f)] (.long (0 : Int64)) := V120
  have N120 := Fr.snoc D120.st (Fr.nil n0) g1
  refine g_aloadN D120 78 d_prog_16m2_77 rfl rfl rfl ?_
  refine g_getF D120 81 (hw _ w_19) Via.refl (F2.other W120 (Or.inl nb1)) d_prog_16m2_78 rfl ?_
  intro T121 D121
  refine g_aloadN D121 82 d_prog_16m2_81 rfl rfl rfl ?_
  refine g_getF D121 85 (hw _ w_26) Via.refl (F3.other W120 (Or.inl nb1)) d_prog_16m2_82 rfl ?_
  intro T122 D122
  refine g_lloadN D122 86 d_prog_16m2_85 rfl rfl ?_
  refine g_lastore D122 87 (V2.other W120 (Ne.symm n12)) ⟨by decide, by decide⟩ 1 (by decide) (Nat.le_of_ble_eq_true rfl) (fun _ _ => trivial) d_prog_16m2_86 rfl ?_
  intro T123 h123 W123 V123 D123
  replace V123 : Arv Z h123 a2 k2 .long (16 : Int32) [(.long x0), (.long ee)] (.long (0 : Int64)) := V123
  have N123 := Fr.snoc D123.st N120 g2
  refine g_aloadN D123 88 d_prog_16m2_87 rfl rfl rfl ?_
  refine g_dup D123 89 d_prog_16m2_88 rfl rfl ?_
  refine g_getF D123 92 (hw _ w_26) Via.refl ((F3.other W120 (Or.inl nb1)).other W123 (Or.inl nb2)) d_prog_16m2_89 rfl ?_
  intro T124 D124
  refine g_iconst D124 93 (1 : Int32) d_prog_16m2_92 rfl rfl ?_
  refine g_iadd D124 94 d_prog_16m2_93 rfl ?_
  rw [show ((1 : Int32) + (1 : Int32)) = (2 : Int32) from by decide]
  refine g_putF D124 97 (hw _ w_26) Via.refl ((F3.other W120 (Or.inl nb1)).other W123 (Or.inl nb2)) ((E_b.wr W120).wr W123) (Or.inl (hw _ w_27)) (hw _ w_8) (ty := .int) (by decide) rfl rfl (fun _ _ => trivial) d_prog_16m2_94 rfl ?_
  intro T125 h125 W125 D125
  have N125 := Fr.snoc D125.st N123 gb
  have F125 := ((F3.other W120 (Or.inl nb1)).other W123 (Or.inl nb2)).same W125
  refine g_aloadN D125 98 d_prog_16m2_97 rfl rfl rfl ?_
  exact r_A D125 hret rfl rfl hlk d_prog_16m2_98 ⟨rfl, N125, ((((Keep.refl _ [b, a1, a2]).wr W120 (Or.inl (List.mem_of_getElem? (i := 1) rfl))).wr W123 (Or.inl (List.mem_of_getElem? (i := 2) rfl))).wr W125 (Or.inl (List.mem_of_getElem? (i := 0) rfl))), (((E_b.wr W120).wr W123).wr W125), (((F1.other W120 (Or.inl nb1)).other W123 (Or.inl nb2)).other W125 (Or.inr (slot_ne (Or.inl (hw _ w_18)) (Or.inl (hw _ w_27)) (by decide) (t := (.array .long)) (t' := .int) (by decide) (by decide)))), (((F2.other W120 (Or.inl nb1)).other W123 (Or.inl nb2)).other W125 (Or.inr (slot_ne (Or.inl (hw _ w_20)) (Or.inl (hw _ w_27)) (by decide) (t := (.array .long)) (t' := .int) (by decide) (by decide)))), F125, ((V120.other W123 n12).other W125 (Ne.symm nb1)), (V123.other W125 (Ne.symm nb2))⟩ (by decide) (by decide)

def Q_cCpA (Z : State) (a : Addr) (ka : ClassId) (u0 u1 : Int64) (h0 : Heap) (n0 : Nat) : Option Value → Heap → List Loc → Prop := (fun v h L => Fr n0 L ∧ ∃ (c : Addr) (kc : ClassId), v = some (.ref c) ∧ h0.size ≤ c ∧ Ext h0 h ∧ Arv Z h c kc .long (2 : Int32) [(.long u0), (.long u1)] (.long (0 : Int64)))
set_option maxRecDepth 65536 in
set_option maxHeartbeats 40000000 in
theorem cCpA (l : Launch) (Z : State) (a0 : Array Value) (hw : ∀ d ∈ tables_1, d.before a0 Z = true) (ws : List Jvm.Cond) (a : Addr) (ka : ClassId) (u0 u1 : Int64) (h0 : Heap) (n0 : Nat) (Z0 : n0 ≤ h0.size) (V : Arv Z h0 a ka .long 16 [(.long u0), (.long u1)] (.long (0 : Int64))) :
    Con l (⟨"java/util/Arrays", "copyOf", "([JI)[J"⟩ : MethodName) jdk_65_method_124_code 3 (some (.array .long)) ws ({ frames := 1, cells := 1, slots := 2, locals := 64 } : Room) Z #[(.ref a), (.int (2 : Int32))] h0 (Q_cCpA Z a ka u0 u1 h0 n0) 1 2 := by
  refine enter (plainFor_of_name pn_1) ?_
  intro p e s m below meth c s₁ hnm hret hlk D0
  rw [ef_cCpA m a]
  refine g_iloadN D0 1 d_jdk_65m124_0 rfl rfl ?_
  refine g_aloadN D0 2 d_jdk_65m124_1 rfl rfl rfl ?_
  refine g_alen D0 3 V d_jdk_65m124_2 rfl ?_
  refine g_icmpY D0 14 d_jdk_65m124_3 (by decide) (by decide) (by decide) ?_
  refine g_iloadN D0 15 d_jdk_65m124_14 rfl rfl ?_
  refine g_newP D0 17 (aty := .long) (hw _ w_16) d_jdk_65m124_15 (by decide) (cap := 2) (by decide) (by decide) (by decide) (by decide) (fun _ _ => trivial) rfl ?_
  intro T126 h126 a126 k126 g126 E126 V126 D126
  have V126' : Arv Z h126 a126 k126 .long (2 : Int32) [(.long (0 : Int64)), (.long (0 : Int64))] (.long (0 : Int64)) := V126.pad (pad_rep [] (.long (0 : Int64)) 2)
  refine g_astoreN D126 18 #[.val (.ref a), .val (.int (2 : Int32)), .val (.ref a126)] d_jdk_65m124_17 rfl rfl rfl ?_
  refine g_aloadN D126 19 d_jdk_65m124_18 rfl rfl rfl ?_
  refine g_iconst D126 20 (0 : Int32) d_jdk_65m124_19 rfl rfl ?_
  refine g_aloadN D126 21 d_jdk_65m124_20 rfl rfl rfl ?_
  refine g_iconst D126 22 (0 : Int32) d_jdk_65m124_21 rfl rfl ?_
  refine g_aloadN D126 23 d_jdk_65m124_22 rfl rfl rfl ?_
  refine g_alen D126 24 (V.ext E126) d_jdk_65m124_23 rfl ?_
  refine g_iloadN D126 25 d_jdk_65m124_24 rfl rfl ?_
  refine g_callSp D126 28 (hw _ w_37) (hw _ w_38) (hw _ w_2) (hw _ w_39) (by decide) ((cMinI l Z a0 hw [] (16 : Int32) (2 : Int32) h126 n0 (Nat.le_trans Z0 E126.1)).back D126 4 (hw _ w_39) (hw _ w_2) (by decide) (by decide)) rfl [(.int (16 : Int32)), (.int (2 : Int32))] rfl (lenOf pd_0 rfl) rfl (Nat.le_of_eq rfl) (by decide) (by decide) d_jdk_65m124_25 rfl ?_
  intro v127 T127 q127 D127
  rw [show own_mnI (16 : Int32) (2 : Int32) = (2 : Int32) from by decide] at q127
  subst q127
  show Go p e below _ (T127.setTop (mkF m 28 #[.val (.ref a), .val (.int (2 : Int32)), .val (.ref a126)] [(.int (2 : Int32)), (.int (0 : Int32)), (.ref a126), (.int (0 : Int32)), (.ref a)]))
  refine g_cpA D127 31 (hw _ w_40) (hw _ w_43) (hw _ w_41) (hw _ w_42) [(.long u0), (.long u1)] (V.ext E126) V126' rfl (by decide) (by decide) (by decide) (by decide) (by decide) rfl (by decide) (Fr.nil n0) (Nat.le_trans Z0 (Nat.le_of_eq g126.symm)) rfl d_jdk_65m124_28 (by decide) (W := 0) (Nat.le_of_eq rfl) (by decide) (fun _ _ => trivial) rfl ?_
  intro T128 h128 L128 N128 K128 V128 D128
  replace V128 : Arv Z h128 a126 k126 .long (2 : Int32) [(.long u0), (.long u1)] (.long (0 : Int64)) := V128
  refine g_aloadN D128 32 d_jdk_65m124_31 rfl rfl rfl ?_
  exact r_A D128 hret rfl rfl hlk d_jdk_65m124_32 ⟨N128, a126, _, rfl, (Nat.le_trans (Nat.le_refl _) (Nat.le_of_eq g126.symm)), Keep.toExt (((Keep.refl _ []).ext E126).trans K128 (allS (Or.inr (Nat.le_trans (Nat.le_refl _) (Nat.le_of_eq g126.symm))) all0)), V128⟩ (by decide) (by decide)

def Q_cCpB (Z : State) (a : Addr) (ka : ClassId) (u0 u1 : Int64) (h0 : Heap) (n0 : Nat) : Option Value → Heap → List Loc → Prop := (fun v h L => Fr n0 L ∧ ∃ (c : Addr) (kc : ClassId), v = some (.ref c) ∧ h0.size ≤ c ∧ Ext h0 h ∧ Arv Z h c kc .long (1 : Int32) [(.long u0)] (.long (0 : Int64)))
set_option maxRecDepth 65536 in
set_option maxHeartbeats 40000000 in
theorem cCpB (l : Launch) (Z : State) (a0 : Array Value) (hw : ∀ d ∈ tables_1, d.before a0 Z = true) (ws : List Jvm.Cond) (a : Addr) (ka : ClassId) (u0 u1 : Int64) (h0 : Heap) (n0 : Nat) (Z0 : n0 ≤ h0.size) (V : Arv Z h0 a ka .long 2 [(.long u0), (.long u1)] (.long (0 : Int64))) :
    Con l (⟨"java/util/Arrays", "copyOf", "([JI)[J"⟩ : MethodName) jdk_65_method_124_code 3 (some (.array .long)) ws ({ frames := 1, cells := 1, slots := 1, locals := 64 } : Room) Z #[(.ref a), (.int (1 : Int32))] h0 (Q_cCpB Z a ka u0 u1 h0 n0) 1 1 := by
  refine enter (plainFor_of_name pn_1) ?_
  intro p e s m below meth c s₁ hnm hret hlk D0
  rw [ef_cCpB m a]
  refine g_iloadN D0 1 d_jdk_65m124_0 rfl rfl ?_
  refine g_aloadN D0 2 d_jdk_65m124_1 rfl rfl rfl ?_
  refine g_alen D0 3 V d_jdk_65m124_2 rfl ?_
  refine g_icmpY D0 14 d_jdk_65m124_3 (by decide) (by decide) (by decide) ?_
  refine g_iloadN D0 15 d_jdk_65m124_14 rfl rfl ?_
  refine g_newP D0 17 (aty := .long) (hw _ w_16) d_jdk_65m124_15 (by decide) (cap := 1) (by decide) (by decide) (by decide) (by decide) (fun _ _ => trivial) rfl ?_
  intro T129 h129 a129 k129 g129 E129 V129 D129
  have V129' : Arv Z h129 a129 k129 .long (1 : Int32) [(.long (0 : Int64))] (.long (0 : Int64)) := V129.pad (pad_rep [] (.long (0 : Int64)) 1)
  refine g_astoreN D129 18 #[.val (.ref a), .val (.int (1 : Int32)), .val (.ref a129)] d_jdk_65m124_17 rfl rfl rfl ?_
  refine g_aloadN D129 19 d_jdk_65m124_18 rfl rfl rfl ?_
  refine g_iconst D129 20 (0 : Int32) d_jdk_65m124_19 rfl rfl ?_
  refine g_aloadN D129 21 d_jdk_65m124_20 rfl rfl rfl ?_
  refine g_iconst D129 22 (0 : Int32) d_jdk_65m124_21 rfl rfl ?_
  refine g_aloadN D129 23 d_jdk_65m124_22 rfl rfl rfl ?_
  refine g_alen D129 24 (V.ext E129) d_jdk_65m124_23 rfl ?_
  refine g_iloadN D129 25 d_jdk_65m124_24 rfl rfl ?_
  refine g_callSp D129 28 (hw _ w_37) (hw _ w_38) (hw _ w_2) (hw _ w_39) (by decide) ((cMinI l Z a0 hw [] (2 : Int32) (1 : Int32) h129 n0 (Nat.le_trans Z0 E129.1)).back D129 4 (hw _ w_39) (hw _ w_2) (by decide) (by decide)) rfl [(.int (2 : Int32)), (.int (1 : Int32))] rfl (lenOf pd_0 rfl) rfl (Nat.le_of_eq rfl) (by decide) (by decide) d_jdk_65m124_25 rfl ?_
  intro v130 T130 q130 D130
  rw [show own_mnI (2 : Int32) (1 : Int32) = (1 : Int32) from by decide] at q130
  subst q130
  show Go p e below _ (T130.setTop (mkF m 28 #[.val (.ref a), .val (.int (1 : Int32)), .val (.ref a129)] [(.int (1 : Int32)), (.int (0 : Int32)), (.ref a129), (.int (0 : Int32)), (.ref a)]))
  refine g_cpA D130 31 (hw _ w_40) (hw _ w_43) (hw _ w_41) (hw _ w_42) [(.long u0)] (V.ext E129) V129' rfl (by decide) (by decide) (by decide) (by decide) (by decide) rfl (by decide) (Fr.nil n0) (Nat.le_trans Z0 (Nat.le_of_eq g129.symm)) rfl d_jdk_65m124_28 (by decide) (W := 0) (Nat.le_of_eq rfl) (by decide) (fun _ _ => trivial) rfl ?_
  intro T131 h131 L131 N131 K131 V131 D131
  replace V131 : Arv Z h131 a129 k129 .long (1 : Int32) [(.long u0)] (.long (0 : Int64)) := V131
  refine g_aloadN D131 32 d_jdk_65m124_31 rfl rfl rfl ?_
  exact r_A D131 hret rfl rfl hlk d_jdk_65m124_32 ⟨N131, a129, _, rfl, (Nat.le_trans (Nat.le_refl _) (Nat.le_of_eq g129.symm)), Keep.toExt (((Keep.refl _ []).ext E129).trans K131 (allS (Or.inr (Nat.le_trans (Nat.le_refl _) (Nat.le_of_eq g129.symm))) all0)), V131⟩ (by decide) (by decide)

def Q_cCpC (Z : State) (a : Addr) (ka : ClassId) (u0 u1 : Int64) (h0 : Heap) (n0 : Nat) : Option Value → Heap → List Loc → Prop := (fun v h L => Fr n0 L ∧ ∃ (c : Addr) (kc : ClassId), v = some (.ref c) ∧ h0.size ≤ c ∧ Ext h0 h ∧ Arv Z h c kc .long (2 : Int32) [(.long u0), (.long u1)] (.long (0 : Int64)))
set_option maxRecDepth 65536 in
set_option maxHeartbeats 40000000 in
theorem cCpC (l : Launch) (Z : State) (a0 : Array Value) (hw : ∀ d ∈ tables_1, d.before a0 Z = true) (ws : List Jvm.Cond) (a : Addr) (ka : ClassId) (u0 u1 : Int64) (h0 : Heap) (n0 : Nat) (Z0 : n0 ≤ h0.size) (V : Arv Z h0 a ka .long 2 [(.long u0), (.long u1)] (.long (0 : Int64))) (E : Exa Z h0 a "[J") :
    Con l (⟨"java/util/Arrays", "copyOf", "([JI)[J"⟩ : MethodName) jdk_65_method_124_code 3 (some (.array .long)) ws ({ frames := 1, cells := 1, slots := 2, locals := 64 } : Room) Z #[(.ref a), (.int (2 : Int32))] h0 (Q_cCpC Z a ka u0 u1 h0 n0) 1 2 := by
  refine enter (plainFor_of_name pn_1) ?_
  intro p e s m below meth c s₁ hnm hret hlk D0
  rw [ef_cCpC m a]
  refine g_iloadN D0 1 d_jdk_65m124_0 rfl rfl ?_
  refine g_aloadN D0 2 d_jdk_65m124_1 rfl rfl rfl ?_
  refine g_alen D0 3 V d_jdk_65m124_2 rfl ?_
  refine g_icmpN D0 6 d_jdk_65m124_3 (by decide) rfl ?_
  refine g_aloadN D0 7 d_jdk_65m124_6 rfl rfl rfl ?_
  refine g_clone D0 10 (hw _ w_83) (hw _ w_84) (hw _ w_88) (hw _ w_86) (hw _ w_87) (hw _ w_89) V E rfl d_jdk_65m124_7 (by decide) (W := 0) (cap := 2) (Nat.le_of_eq rfl) (by decide) (by decide) (by decide) (by decide) (fun _ _ => trivial) rfl ?_
  intro T1 h1 b gb E1 V1 X1 D1
  refine g_castY D1 13 (hw _ w_90) (Ins.self X1) d_jdk_65m124_10 rfl ?_
  intro T132 D132
  exact r_A D132 hret rfl rfl hlk d_jdk_65m124_13 ⟨Fr.nil n0, b, _, rfl, Nat.le_of_eq gb.symm, E1, V1⟩ (by decide) (by decide)

def Q_cIns (Z : State) (a : Addr) (ka : ClassId) (u0 u1 : Int64) (h0 : Heap) (n0 : Nat) : Option Value → Heap → List Loc → Prop := (fun v h L => v = none ∧ Fr n0 L ∧ Keep h0 h [a] ∧ Arv Z h a ka .long 2 [(.long (own_mn u0 u1)), (.long (own_mx u0 u1))] (.long (0 : Int64)))
set_option maxRecDepth 65536 in
set_option maxHeartbeats 40000000 in
theorem cIns (l : Launch) (Z : State) (a0 : Array Value) (hw : ∀ d ∈ tables_1, d.before a0 Z = true) (ws : List Jvm.Cond) (a : Addr) (ka : ClassId) (u0 u1 : Int64) (h0 : Heap) (n0 : Nat) (Z0 : n0 ≤ h0.size) (V : Arv Z h0 a ka .long 2 [(.long u0), (.long u1)] (.long (0 : Int64))) (g : n0 ≤ a) :
    Con l (⟨"java/util/DualPivotQuicksort", "insertionSort", "([JII)V"⟩ : MethodName) jdk_2529_method_15_code 7 none ws ({ frames := 0, cells := 0, slots := 0, locals := 0 } : Room) Z #[(.ref a), (.int (0 : Int32)), (.int (2 : Int32))] h0 (Q_cIns Z a ka u0 u1 h0 n0) 0 0 := by
  refine enter (plainFor_of_name pn_2) ?_
  intro p e s m below meth c s₁ hnm hret hlk D0
  rw [ef_cIns m a]
  refine g_iloadN D0 1 d_jdk_2529m15_0 rfl rfl ?_
  refine g_istore D0 3 #[.val (.ref a), .val (.int (0 : Int32)), .val (.int (2 : Int32)), .unset, .val (.int (0 : Int32)), .unset, .unset] d_jdk_2529m15_1 rfl rfl ?_
  refine g_iinc D0 6 (1 : Int32) #[.val (.ref a), .val (.int (0 : Int32)), .val (.int (2 : Int32)), .unset, .val (.int ((0 : Int32) + (1 : Int32))), .unset, .unset] d_jdk_2529m15_3 rfl rfl rfl rfl ?_
  rw [show ((0 : Int32) + (1 : Int32)) = (1 : Int32) from by decide]
  refine g_iload D0 8 d_jdk_2529m15_6 rfl rfl ?_
  refine g_iloadN D0 9 d_jdk_2529m15_8 rfl rfl ?_
  refine g_icmpN D0 12 d_jdk_2529m15_9 (by decide) rfl ?_
  refine g_aloadN D0 13 d_jdk_2529m15_12 rfl rfl rfl ?_
  refine g_iload D0 15 d_jdk_2529m15_13 rfl rfl ?_
  refine g_dup D0 16 d_jdk_2529m15_15 rfl rfl ?_
  refine g_istoreN D0 17 #[.val (.ref a), .val (.int (0 : Int32)), .val (.int (2 : Int32)), .val (.int (1 : Int32)), .val (.int (1 : Int32)), .unset, .unset] d_jdk_2529m15_16 rfl rfl ?_
  refine g_laload D0 18 V ⟨by decide, by decide⟩ rfl d_jdk_2529m15_17 rfl ?_
  refine g_lstore D0 20 #[.val (.ref a), .val (.int (0 : Int32)), .val (.int (2 : Int32)), .val (.int (1 : Int32)), .val (.int (1 : Int32)), .val (.long u1), .second] d_jdk_2529m15_18 rfl rfl ?_
  refine g_lload D0 22 d_jdk_2529m15_20 rfl rfl ?_
  refine g_aloadN D0 23 d_jdk_2529m15_22 rfl rfl rfl ?_
  refine g_iloadN D0 24 d_jdk_2529m15_23 rfl rfl ?_
  refine g_iconst D0 25 (1 : Int32) d_jdk_2529m15_24 rfl rfl ?_
  refine g_isub D0 26 d_jdk_2529m15_25 rfl ?_
  rw [show ((1 : Int32) - (1 : Int32)) = (0 : Int32) from by decide]
  refine g_laload D0 27 V ⟨by decide, by decide⟩ rfl d_jdk_2529m15_26 rfl ?_
  refine g_lcmp D0 28 d_jdk_2529m15_27 rfl ?_
  by_cases hc : u1 < u0
  · refine g_ifN D0 31 d_jdk_2529m15_28 (tlt (clt_t hc)).2.1 rfl ?_
    refine g_iinc D0 34 (-1 : Int32) #[.val (.ref a), .val (.int (0 : Int32)), .val (.int (2 : Int32)), .val (.int ((1 : Int32) + (-1 : Int32))), .val (.int (1 : Int32)), .val (.long u1), .second] d_jdk_2529m15_31 rfl rfl rfl rfl ?_
    rw [show ((1 : Int32) + (-1 : Int32)) = (0 : Int32) from by decide]
    refine g_iloadN D0 35 d_jdk_2529m15_34 rfl rfl ?_
    refine g_iloadN D0 36 d_jdk_2529m15_35 rfl rfl ?_
    refine g_icmpN D0 39 d_jdk_2529m15_36 (by decide) rfl ?_
    refine g_lload D0 41 d_jdk_2529m15_39 rfl rfl ?_
    refine g_aloadN D0 42 d_jdk_2529m15_41 rfl rfl rfl ?_
    refine g_iloadN D0 43 d_jdk_2529m15_42 rfl rfl ?_
    refine g_laload D0 44 V ⟨by decide, by decide⟩ rfl d_jdk_2529m15_43 rfl ?_
    refine g_lcmp D0 45 d_jdk_2529m15_44 rfl ?_
    refine g_ifN D0 48 d_jdk_2529m15_45 (tlt (clt_t hc)).2.1 rfl ?_
    refine g_aloadN D0 49 d_jdk_2529m15_48 rfl rfl rfl ?_
    refine g_iloadN D0 50 d_jdk_2529m15_49 rfl rfl ?_
    refine g_iconst D0 51 (1 : Int32) d_jdk_2529m15_50 rfl rfl ?_
    refine g_iadd D0 52 d_jdk_2529m15_51 rfl ?_
    rw [show ((0 : Int32) + (1 : Int32)) = (1 : Int32) from by decide]
    refine g_aloadN D0 53 d_jdk_2529m15_52 rfl rfl rfl ?_
    refine g_iloadN D0 54 d_jdk_2529m15_53 rfl rfl ?_
    refine g_laload D0 55 V ⟨by decide, by decide⟩ rfl d_jdk_2529m15_54 rfl ?_
    refine g_lastore D0 56 V ⟨by decide, by decide⟩ 1 (by decide) (Nat.le_of_ble_eq_true rfl) (fun _ _ => trivial) d_jdk_2529m15_55 rfl ?_
    intro T133 h133 W133 V133 D133
    replace V133 : Arv Z h133 a ka .long (2 : Int32) [(.long u0), (.long u0)] (.long (0 : Int64)) := V133
    have N133 := Fr.snoc D133.st (Fr.nil n0) g
    refine g_goto D133 31 d_jdk_2529m15_56 (by decide) (by decide) ?_
    refine g_iinc D133 34 (-1 : Int32) #[.val (.ref a), .val (.int (0 : Int32)), .val (.int (2 : Int32)), .val (.int ((0 : Int32) + (-1 : Int32))), .val (.int (1 : Int32)), .val (.long u1), .second] d_jdk_2529m15_31 rfl rfl rfl rfl ?_
    rw [show ((0 : Int32) + (-1 : Int32)) = (-1 : Int32) from by decide]
    refine g_iloadN D133 35 d_jdk_2529m15_34 rfl rfl ?_
    refine g_iloadN D133 36 d_jdk_2529m15_35 rfl rfl ?_
    refine g_icmpY D133 59 d_jdk_2529m15_36 (by decide) (by decide) (by decide) ?_
    refine g_aloadN D133 60 d_jdk_2529m15_59 rfl rfl rfl ?_
    refine g_iloadN D133 61 d_jdk_2529m15_60 rfl rfl ?_
    refine g_iconst D133 62 (1 : Int32) d_jdk_2529m15_61 rfl rfl ?_
    refine g_iadd D133 63 d_jdk_2529m15_62 rfl ?_
    rw [show ((-1 : Int32) + (1 : Int32)) = (0 : Int32) from by decide]
    refine g_lload D133 65 d_jdk_2529m15_63 rfl rfl ?_
    refine g_lastore D133 66 V133 ⟨by decide, by decide⟩ 0 (by decide) (Nat.le_of_ble_eq_true rfl) (fun _ _ => trivial) d_jdk_2529m15_65 rfl ?_
    intro T134 h134 W134 V134 D134
    replace V134 : Arv Z h134 a ka .long (2 : Int32) [(.long u1), (.long u0)] (.long (0 : Int64)) := V134
    have N134 := Fr.snoc D134.st N133 g
    refine g_goto D134 3 d_jdk_2529m15_66 (by decide) (by decide) ?_
    refine g_iinc D134 6 (1 : Int32) #[.val (.ref a), .val (.int (0 : Int32)), .val (.int (2 : Int32)), .val (.int (-1 : Int32)), .val (.int ((1 : Int32) + (1 : Int32))), .val (.long u1), .second] d_jdk_2529m15_3 rfl rfl rfl rfl ?_
    rw [show ((1 : Int32) + (1 : Int32)) = (2 : Int32) from by decide]
    refine g_iload D134 8 d_jdk_2529m15_6 rfl rfl ?_
    refine g_iloadN D134 9 d_jdk_2529m15_8 rfl rfl ?_
    refine g_icmpY D134 69 d_jdk_2529m15_9 (by decide) (by decide) (by decide) ?_
    obtain ⟨e1, e2⟩ := own_ins1 hc
    exact r_V D134 hret hlk d_jdk_2529m15_69 ⟨rfl, N134, (((Keep.refl _ [a]).wr W133 (Or.inl (List.mem_of_getElem? (i := 0) rfl))).wr W134 (Or.inl (List.mem_of_getElem? (i := 0) rfl))), by rw [e1, e2]; exact V134⟩ (by decide) (by decide)
  · refine g_ifY D0 66 d_jdk_2529m15_28 (flt (clt_f hc)).2.1 (by decide) (by decide) ?_
    refine g_goto D0 3 d_jdk_2529m15_66 (by decide) (by decide) ?_
    refine g_iinc D0 6 (1 : Int32) #[.val (.ref a), .val (.int (0 : Int32)), .val (.int (2 : Int32)), .val (.int (1 : Int32)), .val (.int ((1 : Int32) + (1 : Int32))), .val (.long u1), .second] d_jdk_2529m15_3 rfl rfl rfl rfl ?_
    rw [show ((1 : Int32) + (1 : Int32)) = (2 : Int32) from by decide]
    refine g_iload D0 8 d_jdk_2529m15_6 rfl rfl ?_
    refine g_iloadN D0 9 d_jdk_2529m15_8 rfl rfl ?_
    refine g_icmpY D0 69 d_jdk_2529m15_9 (by decide) (by decide) (by decide) ?_
    obtain ⟨e1, e2⟩ := own_ins2 hc
    exact r_V D0 hret hlk d_jdk_2529m15_69 ⟨rfl, (Fr.nil n0), (Keep.refl _ [a]), by rw [e1, e2]; exact V⟩ (by decide) (by decide)

def Q_cS3 (Z : State) (a : Addr) (ka : ClassId) (u0 u1 : Int64) (h0 : Heap) (n0 : Nat) : Option Value → Heap → List Loc → Prop := (fun v h L => v = none ∧ Fr n0 L ∧ Keep h0 h [a] ∧ Arv Z h a ka .long 2 [(.long (own_mn u0 u1)), (.long (own_mx u0 u1))] (.long (0 : Int64)))
set_option maxRecDepth 65536 in
set_option maxHeartbeats 40000000 in
theorem cS3 (l : Launch) (Z : State) (a0 : Array Value) (hw : ∀ d ∈ tables_1, d.before a0 Z = true) (ws : List Jvm.Cond) (a : Addr) (ka : ClassId) (u0 u1 : Int64) (h0 : Heap) (n0 : Nat) (Z0 : n0 ≤ h0.size) (V : Arv Z h0 a ka .long 2 [(.long u0), (.long u1)] (.long (0 : Int64))) (g : n0 ≤ a) :
    Con l (⟨"java/util/DualPivotQuicksort", "sort", "(Ljava/util/DualPivotQuicksort$Sorter;[JIII)V"⟩ : MethodName) jdk_2529_method_13_code 25 none ws ({ frames := 1, cells := 0, slots := 0, locals := 18 } : Room) Z #[.null, (.ref a), (.int (0 : Int32)), (.int (0 : Int32)), (.int (2 : Int32))] h0 (Q_cS3 Z a ka u0 u1 h0 n0) 0 0 := by
  refine enter (plainFor_of_name pn_2) ?_
  intro p e s m below meth c s₁ hnm hret hlk D0
  rw [ef_cS3 m a]
  refine g_iload D0 2 d_jdk_2529m13_0 rfl rfl ?_
  refine g_iconst D0 3 (1 : Int32) d_jdk_2529m13_2 rfl rfl ?_
  refine g_isub D0 4 d_jdk_2529m13_3 rfl ?_
  rw [show ((2 : Int32) - (1 : Int32)) = (1 : Int32) from by decide]
  refine g_istore D0 6 #[.val .null, .val (.ref a), .val (.int (0 : Int32)), .val (.int (0 : Int32)), .val (.int (2 : Int32)), .val (.int (1 : Int32)), .unset, .unset, .unset, .unset, .unset, .unset, .unset, .unset, .unset, .unset, .unset, .unset, .unset, .unset, .unset, .unset, .unset, .unset, .unset] d_jdk_2529m13_4 rfl rfl ?_
  refine g_iload D0 8 d_jdk_2529m13_6 rfl rfl ?_
  refine g_iloadN D0 9 d_jdk_2529m13_8 rfl rfl ?_
  refine g_isub D0 10 d_jdk_2529m13_9 rfl ?_
  rw [show ((2 : Int32) - (0 : Int32)) = (2 : Int32) from by decide]
  refine g_istore D0 12 #[.val .null, .val (.ref a), .val (.int (0 : Int32)), .val (.int (0 : Int32)), .val (.int (2 : Int32)), .val (.int (1 : Int32)), .val (.int (2 : Int32)), .unset, .unset, .unset, .unset, .unset, .unset, .unset, .unset, .unset, .unset, .unset, .unset, .unset, .unset, .unset, .unset, .unset, .unset] d_jdk_2529m13_10 rfl rfl ?_
  refine g_iload D0 14 d_jdk_2529m13_12 rfl rfl ?_
  refine g_bipush D0 16 (65 : Int32) d_jdk_2529m13_14 rfl rfl ?_
  refine g_iloadN D0 17 d_jdk_2529m13_16 rfl rfl ?_
  refine g_iadd D0 18 d_jdk_2529m13_17 rfl ?_
  rw [show ((65 : Int32) + (0 : Int32)) = (65 : Int32) from by decide]
  refine g_icmpN D0 21 d_jdk_2529m13_18 (by decide) rfl ?_
  refine g_iloadN D0 22 d_jdk_2529m13_21 rfl rfl ?_
  refine g_iconst D0 23 (1 : Int32) d_jdk_2529m13_22 rfl rfl ?_
  refine g_iand D0 24 d_jdk_2529m13_23 rfl ?_
  rw [show ((0 : Int32) &&& (1 : Int32)) = (0 : Int32) from by decide]
  refine g_ifY D0 46 d_jdk_2529m13_24 (by decide) (by decide) (by decide) ?_
  refine g_iload D0 48 d_jdk_2529m13_46 rfl rfl ?_
  refine g_bipush D0 50 (44 : Int32) d_jdk_2529m13_48 rfl rfl ?_
  refine g_icmpN D0 53 d_jdk_2529m13_50 (by decide) rfl ?_
  refine g_aloadN D0 54 d_jdk_2529m13_53 rfl rfl rfl ?_
  refine g_iloadN D0 55 d_jdk_2529m13_54 rfl rfl ?_
  refine g_iload D0 57 d_jdk_2529m13_55 rfl rfl ?_
  refine g_callS D0 60 (hw _ w_54) (hw _ w_55) (hw _ w_49) (hw _ w_56) (by decide) ((cIns l Z a0 hw [] a ka u0 u1 h0 n0 Z0 V g).back D0 0 (hw _ w_56) (hw _ w_49) (by decide) (by decide)) rfl [(.ref a), (.int (0 : Int32)), (.int (2 : Int32))] rfl (lenOf pd_1 rfl) rfl (Nat.le_of_eq rfl) (by decide) (by decide) (fun _ _ _ _ => trivial) d_jdk_2529m13_57 rfl ?_
  intro v135 T135 h135 L135 q135 D135
  obtain ⟨rfl, N1, K1, V1⟩ := q135
  rw [List.nil_append] at D135
  show Go p e below _ (T135.setTop (mkF m 60 #[.val .null, .val (.ref a), .val (.int (0 : Int32)), .val (.int (0 : Int32)), .val (.int (2 : Int32)), .val (.int (1 : Int32)), .val (.int (2 : Int32)), .unset, .unset, .unset, .unset, .unset, .unset, .unset, .unset, .unset, .unset, .unset, .unset, .unset, .unset, .unset, .unset, .unset, .unset] []))
  exact r_V D135 hret hlk d_jdk_2529m13_60 ⟨rfl, N1, K1, V1⟩ (by decide) (by decide)

def Q_cS2 (Z : State) (a : Addr) (ka : ClassId) (u0 u1 : Int64) (h0 : Heap) (n0 : Nat) : Option Value → Heap → List Loc → Prop := (fun v h L => v = none ∧ Fr n0 L ∧ Keep h0 h [a] ∧ Arv Z h a ka .long 2 [(.long (own_mn u0 u1)), (.long (own_mx u0 u1))] (.long (0 : Int64)))
set_option maxRecDepth 65536 in
set_option maxHeartbeats 40000000 in
theorem cS2 (l : Launch) (Z : State) (a0 : Array Value) (hw : ∀ d ∈ tables_1, d.before a0 Z = true) (ws : List Jvm.Cond) (a : Addr) (ka : ClassId) (u0 u1 : Int64) (h0 : Heap) (n0 : Nat) (Z0 : n0 ≤ h0.size) (V : Arv Z h0 a ka .long 2 [(.long u0), (.long u1)] (.long (0 : Int64))) (g : n0 ≤ a) :
    Con l (⟨"java/util/DualPivotQuicksort", "sort", "([JIII)V"⟩ : MethodName) jdk_2529_method_12_code 7 none ws ({ frames := 2, cells := 0, slots := 0, locals := 54 } : Room) Z #[(.ref a), (.int (0 : Int32)), (.int (0 : Int32)), (.int (2 : Int32))] h0 (Q_cS2 Z a ka u0 u1 h0 n0) 0 0 := by
  refine enter (plainFor_of_name pn_2) ?_
  intro p e s m below meth c s₁ hnm hret hlk D0
  rw [ef_cS2 m a]
  refine g_iloadN D0 1 d_jdk_2529m12_0 rfl rfl ?_
  refine g_iloadN D0 2 d_jdk_2529m12_1 rfl rfl ?_
  refine g_isub D0 3 d_jdk_2529m12_2 rfl ?_
  rw [show ((2 : Int32) - (0 : Int32)) = (2 : Int32) from by decide]
  refine g_istore D0 5 #[.val (.ref a), .val (.int (0 : Int32)), .val (.int (0 : Int32)), .val (.int (2 : Int32)), .val (.int (2 : Int32)), .unset, .unset] d_jdk_2529m12_3 rfl rfl ?_
  refine g_iloadN D0 6 d_jdk_2529m12_5 rfl rfl ?_
  refine g_iconst D0 7 (1 : Int32) d_jdk_2529m12_6 rfl rfl ?_
  refine g_icmpY D0 68 d_jdk_2529m12_7 (by decide) (by decide) (by decide) ?_
  refine g_aconst D0 69 d_jdk_2529m12_68 rfl ?_
  refine g_aloadN D0 70 d_jdk_2529m12_69 rfl rfl rfl ?_
  refine g_iconst D0 71 (0 : Int32) d_jdk_2529m12_70 rfl rfl ?_
  refine g_iloadN D0 72 d_jdk_2529m12_71 rfl rfl ?_
  refine g_iloadN D0 73 d_jdk_2529m12_72 rfl rfl ?_
  refine g_callS D0 76 (hw _ w_51) (hw _ w_52) (hw _ w_49) (hw _ w_53) (by decide) ((cS3 l Z a0 hw [] a ka u0 u1 h0 n0 Z0 V g).back D0 0 (hw _ w_53) (hw _ w_49) (by decide) (by decide)) rfl [.null, (.ref a), (.int (0 : Int32)), (.int (0 : Int32)), (.int (2 : Int32))] rfl (lenOf pd_2 rfl) rfl (Nat.le_of_eq rfl) (by decide) (by decide) (fun _ _ _ _ => trivial) d_jdk_2529m12_73 rfl ?_
  intro v136 T136 h136 L136 q136 D136
  obtain ⟨rfl, N1, K1, V1⟩ := q136
  rw [List.nil_append] at D136
  show Go p e below _ (T136.setTop (mkF m 76 #[.val (.ref a), .val (.int (0 : Int32)), .val (.int (0 : Int32)), .val (.int (2 : Int32)), .val (.int (2 : Int32)), .unset, .unset] []))
  exact r_V D136 hret hlk d_jdk_2529m12_76 ⟨rfl, N1, K1, V1⟩ (by decide) (by decide)

def Q_cS1 (Z : State) (a : Addr) (ka : ClassId) (u0 u1 : Int64) (h0 : Heap) (n0 : Nat) : Option Value → Heap → List Loc → Prop := (fun v h L => v = none ∧ Fr n0 L ∧ Keep h0 h [a] ∧ Arv Z h a ka .long 2 [(.long (own_mn u0 u1)), (.long (own_mx u0 u1))] (.long (0 : Int64)))
set_option maxRecDepth 65536 in
set_option maxHeartbeats 40000000 in
theorem cS1 (l : Launch) (Z : State) (a0 : Array Value) (hw : ∀ d ∈ tables_1, d.before a0 Z = true) (ws : List Jvm.Cond) (a : Addr) (ka : ClassId) (u0 u1 : Int64) (h0 : Heap) (n0 : Nat) (Z0 : n0 ≤ h0.size) (V : Arv Z h0 a ka .long 2 [(.long u0), (.long u1)] (.long (0 : Int64))) (g : n0 ≤ a) :
    Con l (⟨"java/util/Arrays", "sort", "([J)V"⟩ : MethodName) jdk_65_method_4_code 1 none ws ({ frames := 3, cells := 0, slots := 0, locals := 72 } : Room) Z #[(.ref a)] h0 (Q_cS1 Z a ka u0 u1 h0 n0) 0 0 := by
  refine enter (plainFor_of_name pn_1) ?_
  intro p e s m below meth c s₁ hnm hret hlk D0
  rw [ef_cS1 m a]
  refine g_aloadN D0 1 d_jdk_65m4_0 rfl rfl rfl ?_
  refine g_iconst D0 2 (0 : Int32) d_jdk_65m4_1 rfl rfl ?_
  refine g_iconst D0 3 (0 : Int32) d_jdk_65m4_2 rfl rfl ?_
  refine g_aloadN D0 4 d_jdk_65m4_3 rfl rfl rfl ?_
  refine g_alen D0 5 V d_jdk_65m4_4 rfl ?_
  refine g_callS D0 8 (hw _ w_47) (hw _ w_48) (hw _ w_49) (hw _ w_50) (by decide) ((cS2 l Z a0 hw [] a ka u0 u1 h0 n0 Z0 V g).back D0 0 (hw _ w_50) (hw _ w_49) (by decide) (by decide)) rfl [(.ref a), (.int (0 : Int32)), (.int (0 : Int32)), (.int (2 : Int32))] rfl (lenOf pd_3 rfl) rfl (Nat.le_of_eq rfl) (by decide) (by decide) (fun _ _ _ _ => trivial) d_jdk_65m4_5 rfl ?_
  intro v137 T137 h137 L137 q137 D137
  obtain ⟨rfl, N1, K1, V1⟩ := q137
  rw [List.nil_append] at D137
  show Go p e below _ (T137.setTop (mkF m 8 #[.val (.ref a)] []))
  exact r_V D137 hret hlk d_jdk_65m4_8 ⟨rfl, N1, K1, V1⟩ (by decide) (by decide)

def Q_cHI (Z : State) (b y1 y2 : Addr) (h0 : Heap) (n0 : Nat) : Option Value → Heap → List Loc → Prop := (fun v h L => v = none ∧ Fr n0 L ∧ Keep h0 h [b] ∧ Exa Z h b "com/example/twelfths/twelfths/grid/HourSet" ∧ Fld Z h b "com/example/twelfths/twelfths/grid/HourSet" "firsts" "[J" (.ref y1) ∧ Fld Z h b "com/example/twelfths/twelfths/grid/HourSet" "ends" "[J" (.ref y2))
set_option maxRecDepth 65536 in
set_option maxHeartbeats 40000000 in
theorem cHI (l : Launch) (Z : State) (a0 : Array Value) (hw : ∀ d ∈ tables_1, d.before a0 Z = true) (ws : List Jvm.Cond) (b y1 y2 : Addr) (h0 : Heap) (n0 : Nat) (Z0 : n0 ≤ h0.size) (E_b : Exa Z h0 b "com/example/twelfths/twelfths/grid/HourSet") (F1 : Fld Z h0 b "com/example/twelfths/twelfths/grid/HourSet" "firsts" "[J" .null) (F2 : Fld Z h0 b "com/example/twelfths/twelfths/grid/HourSet" "ends" "[J" .null) (gb : n0 ≤ b) :
    Con l (⟨"com/example/twelfths/twelfths/grid/HourSet", "<init>", "([J[J)V"⟩ : MethodName) prog_15_method_1_code 3 none ws ({ frames := 1, cells := 0, slots := 0, locals := 12 } : Room) Z #[(.ref b), (.ref y1), (.ref y2)] h0 (Q_cHI Z b y1 y2 h0 n0) 0 0 := by
  refine enter (plainFor_of_name pn_3) ?_
  intro p e s m below meth c s₁ hnm hret hlk D0
  rw [ef_cHI m b y1 y2]
  refine g_aloadN D0 1 d_prog_15m1_0 rfl rfl rfl ?_
  refine g_initO D0 4 (hw _ w_63) (hw _ w_14) (hw _ w_15) rfl d_prog_15m1_1 (by decide) (W := 0) (Nat.le_of_eq rfl) (by decide) rfl ?_
  intro T138 D138
  refine g_aloadN D138 5 d_prog_15m1_4 rfl rfl rfl ?_
  refine g_aloadN D138 6 d_prog_15m1_5 rfl rfl rfl ?_
  refine g_putF D138 9 (hw _ w_64) Via.refl F1 E_b (Or.inr ⟨(hw _ w_65), rfl, hnm⟩) (hw _ w_58) (ty := (.array .long)) (by decide) rfl rfl (fun _ _ => trivial) d_prog_15m1_6 rfl ?_
  intro T139 h139 W139 D139
  have N139 := Fr.snoc D139.st (Fr.nil n0) gb
  have F139 := F1.same W139
  refine g_aloadN D139 10 d_prog_15m1_9 rfl rfl rfl ?_
  refine g_aloadN D139 11 d_prog_15m1_10 rfl rfl rfl ?_
  refine g_putF D139 14 (hw _ w_66) Via.refl (F2.other W139 (Or.inr (slot_ne (Or.inr (hw _ w_67)) (Or.inr (hw _ w_65)) (by decide) (t := (.array .long)) (t' := (.array .long)) (by decide) (by decide)))) (E_b.wr W139) (Or.inr ⟨(hw _ w_67), rfl, hnm⟩) (hw _ w_58) (ty := (.array .long)) (by decide) rfl rfl (fun _ _ => trivial) d_prog_15m1_11 rfl ?_
  intro T140 h140 W140 D140
  have N140 := Fr.snoc D140.st N139 gb
  have F140 := (F2.other W139 (Or.inr (slot_ne (Or.inr (hw _ w_67)) (Or.inr (hw _ w_65)) (by decide) (t := (.array .long)) (t' := (.array .long)) (by decide) (by decide)))).same W140
  exact r_V D140 hret hlk d_prog_15m1_14 ⟨rfl, N140, (((Keep.refl _ [b]).wr W139 (Or.inl (List.mem_of_getElem? (i := 0) rfl))).wr W140 (Or.inl (List.mem_of_getElem? (i := 0) rfl))), ((E_b.wr W139).wr W140), (F139.other W140 (Or.inr (slot_ne (Or.inr (hw _ w_65)) (Or.inr (hw _ w_67)) (by decide) (t := (.array .long)) (t' := (.array .long)) (by decide) (by decide)))), F140⟩ (by decide) (by decide)

def Q_cB (Z : State) (b a1 a2 : Addr) (k1 k2 : ClassId) (f1 f2 e1 e2 : Int64) (h0 : Heap) (n0 : Nat) : Option Value → Heap → List Loc → Prop := (fun v h L => ∃ (hs cF cE : Addr) (kF kE : ClassId), v = some (.ref hs) ∧ Fr n0 L ∧ Ext h0 h ∧ Exa Z h hs "com/example/twelfths/twelfths/grid/HourSet" ∧ Fld Z h hs "com/example/twelfths/twelfths/grid/HourSet" "firsts" "[J" (.ref cF) ∧ Fld Z h hs "com/example/twelfths/twelfths/grid/HourSet" "ends" "[J" (.ref cE) ∧ ((own_mn e1 e2 < own_mx f1 f2 ∧ Arv Z h cF kF .long (2 : Int32) [(.long (own_mn f1 f2)), (.long (own_mx f1 f2))] (.long (0 : Int64)) ∧ Arv Z h cE kE .long (2 : Int32) [(.long (own_mn e1 e2)), (.long (own_mx e1 e2))] (.long (0 : Int64))) ∨ (¬ own_mn e1 e2 < own_mx f1 f2 ∧ Arv Z h cF kF .long (1 : Int32) [(.long (own_mn f1 f2))] (.long (0 : Int64)) ∧ Arv Z h cE kE .long (1 : Int32) [(.long (own_mx e1 e2))] (.long (0 : Int64)))))
set_option maxRecDepth 65536 in
set_option maxHeartbeats 40000000 in
theorem cB (l : Launch) (Z : State) (a0 : Array Value) (hw : ∀ d ∈ tables_1, d.before a0 Z = true) (ws : List Jvm.Cond) (b a1 a2 : Addr) (k1 k2 : ClassId) (f1 f2 e1 e2 : Int64) (h0 : Heap) (n0 : Nat) (Z0 : n0 ≤ h0.size) (E_b : Exa Z h0 b "com/example/twelfths/twelfths/grid/HourSet$Builder") (F1 : Fld Z h0 b "com/example/twelfths/twelfths/grid/HourSet$Builder" "firsts" "[J" (.ref a1)) (F2 : Fld Z h0 b "com/example/twelfths/twelfths/grid/HourSet$Builder" "ends" "[J" (.ref a2)) (F3 : Fld Z h0 b "com/example/twelfths/twelfths/grid/HourSet$Builder" "size" "I" (.int (2 : Int32))) (V1 : Arv Z h0 a1 k1 .long 16 [(.long f1), (.long f2)] (.long (0 : Int64))) (V2 : Arv Z h0 a2 k2 .long 16 [(.long e1), (.long e2)] (.long (0 : Int64))) (n12 : a1 ≠ a2) (nb1 : b ≠ a1) (nb2 : b ≠ a2) (gb : n0 ≤ b) (g1 : n0 ≤ a1) (g2 : n0 ≤ a2) (hf1 : f1 < e1) (hf2 : f2 < e2) :
    Con l (⟨"com/example/twelfths/twelfths/grid/HourSet$Builder", "build", "()Lcom/example/twelfths/twelfths/grid/HourSet;"⟩ : MethodName) prog_16_method_3_code 9 (some (.object "com/example/twelfths/twelfths/grid/HourSet")) ws ({ frames := 4, cells := 7, slots := 14, locals := 100 } : Room) Z #[(.ref b)] h0 (Q_cB Z b a1 a2 k1 k2 f1 f2 e1 e2 h0 n0) 7 14 := by
  refine enter (plainFor_of_name pn_0) ?_
  intro p e s m below meth c s₁ hnm hret hlk D0
  rw [ef_cB m b]
  refine g_aloadN D0 1 d_prog_16m3_0 rfl rfl rfl ?_
  refine g_getF D0 4 (hw _ w_17) Via.refl F1 d_prog_16m3_1 rfl ?_
  intro T141 D141
  refine g_aloadN D141 5 d_prog_16m3_4 rfl rfl rfl ?_
  refine g_getF D141 8 (hw _ w_26) Via.refl F3 d_prog_16m3_5 rfl ?_
  intro T142 D142
  refine g_callS D142 11 (hw _ w_33) (hw _ w_34) (hw _ w_35) (hw _ w_36) (by decide) ((cCpA l Z a0 hw [] a1 k1 f1 f2 h0 n0 Z0 V1).back D142 0 (hw _ w_36) (hw _ w_35) (by decide) (by decide)) rfl [(.ref a1), (.int (2 : Int32))] rfl (lenOf pd_4 rfl) rfl (Nat.le_of_eq rfl) (by decide) (by decide) (fun _ _ _ _ => trivial) d_prog_16m3_8 rfl ?_
  intro v143 T143 h143 L143 q143 D143
  obtain ⟨N143, c143, k143, rfl, z143, E143, V143⟩ := q143
  have NF143 := Fr.app (Fr.nil n0) N143
  show Go p e below _ (T143.setTop (mkF m 11 #[.val (.ref b), .unset, .unset, .unset, .unset, .unset, .unset, .unset, .unset] [(.ref c143)]))
  refine g_astoreN D143 12 #[.val (.ref b), .val (.ref c143), .unset, .unset, .unset, .unset, .unset, .unset, .unset] d_prog_16m3_11 rfl rfl rfl ?_
  refine g_aloadN D143 13 d_prog_16m3_12 rfl rfl rfl ?_
  refine g_getF D143 16 (hw _ w_19) Via.refl (F2.ext E143) d_prog_16m3_13 rfl ?_
  intro T144 D144
  refine g_aloadN D144 17 d_prog_16m3_16 rfl rfl rfl ?_
  refine g_getF D144 20 (hw _ w_26) Via.refl (F3.ext E143) d_prog_16m3_17 rfl ?_
  intro T145 D145
  refine g_callS D145 23 (hw _ w_33) (hw _ w_34) (hw _ w_35) (hw _ w_36) (by decide) ((cCpA l Z a0 hw [] a2 k2 e1 e2 h143 n0 (Nat.le_trans Z0 E143.1) (V2.ext E143)).back D145 0 (hw _ w_36) (hw _ w_35) (by decide) (by decide)) rfl [(.ref a2), (.int (2 : Int32))] rfl (lenOf pd_4 rfl) rfl (Nat.le_of_eq rfl) (by decide) (by decide) (fun _ _ _ _ => trivial) d_prog_16m3_20 rfl ?_
  intro v146 T146 h146 L146 q146 D146
  obtain ⟨N146, c146, k146, rfl, z146, E146, V146⟩ := q146
  have NF146 := Fr.app NF143 N146
  show Go p e below _ (T146.setTop (mkF m 23 #[.val (.ref b), .val (.ref c143), .unset, .unset, .unset, .unset, .unset, .unset, .unset] [(.ref c146)]))
  refine g_astoreN D146 24 #[.val (.ref b), .val (.ref c143), .val (.ref c146), .unset, .unset, .unset, .unset, .unset, .unset] d_prog_16m3_23 rfl rfl rfl ?_
  refine g_aloadN D146 25 d_prog_16m3_24 rfl rfl rfl ?_
  refine g_callS D146 28 (hw _ w_44) (hw _ w_45) (hw _ w_35) (hw _ w_46) (by decide) ((cS1 l Z a0 hw [] c143 k143 f1 f2 h146 n0 (Nat.le_trans (Nat.le_trans Z0 E143.1) E146.1) (V143.ext E146) (Nat.le_trans Z0 z143)).back D146 0 (hw _ w_46) (hw _ w_35) (by decide) (by decide)) rfl [(.ref c143)] rfl (lenOf pd_5 rfl) rfl (Nat.le_of_eq rfl) (by decide) (by decide) (fun _ _ _ _ => trivial) d_prog_16m3_25 rfl ?_
  intro v147 T147 h147 L147 q147 D147
  obtain ⟨rfl, N147, K147, V147⟩ := q147
  have NF147 := Fr.app NF146 N147
  show Go p e below _ (T147.setTop (mkF m 28 #[.val (.ref b), .val (.ref c143), .val (.ref c146), .unset, .unset, .unset, .unset, .unset, .unset] []))
  refine g_aloadN D147 29 d_prog_16m3_28 rfl rfl rfl ?_
  refine g_callS D147 32 (hw _ w_44) (hw _ w_45) (hw _ w_35) (hw _ w_46) (by decide) ((cS1 l Z a0 hw [] c146 k146 e1 e2 h147 n0 (Nat.le_trans (Nat.le_trans (Nat.le_trans Z0 E143.1) E146.1) K147.1) (V146.keep K147 (ninS (Ne.symm (Nat.ne_of_lt (Nat.lt_of_lt_of_le V143.lt z146))) nin0)) (Nat.le_trans (Nat.le_trans Z0 E143.1) z146)).back D147 0 (hw _ w_46) (hw _ w_35) (by decide) (by decide)) rfl [(.ref c146)] rfl (lenOf pd_5 rfl) rfl (Nat.le_of_eq rfl) (by decide) (by decide) (fun _ _ _ _ => trivial) d_prog_16m3_29 rfl ?_
  intro v148 T148 h148 L148 q148 D148
  obtain ⟨rfl, N148, K148, V148⟩ := q148
  have NF148 := Fr.app NF147 N148
  show Go p e below _ (T148.setTop (mkF m 32 #[.val (.ref b), .val (.ref c143), .val (.ref c146), .unset, .unset, .unset, .unset, .unset, .unset] []))
  refine g_aloadN D148 33 d_prog_16m3_32 rfl rfl rfl ?_
  refine g_getF D148 36 (hw _ w_26) Via.refl ((((F3.ext E143).ext E146).keep K147 (ninS (Nat.ne_of_lt (Nat.lt_of_lt_of_le E_b.lt z143)) nin0)).keep K148 (ninS (Nat.ne_of_lt (Nat.lt_of_lt_of_le (Nat.lt_of_lt_of_le E_b.lt E143.1) z146)) nin0)) d_prog_16m3_33 rfl ?_
  intro T149 D149
  refine g_newPE D149 38 (aty := .long) (hw _ w_16) d_prog_16m3_36 (by decide) (cap := 2) (by decide) (by decide) (by decide) (by decide) (ad := "[J") (by decide) (fun _ _ => trivial) rfl ?_
  intro T150 h150 a150 k150 g150 E150 V150 A150 D150
  have V150' : Arv Z h150 a150 k150 .long (2 : Int32) [(.long (0 : Int64)), (.long (0 : Int64))] (.long (0 : Int64)) := V150.pad (pad_rep [] (.long (0 : Int64)) 2)
  refine g_astoreN D150 39 #[.val (.ref b), .val (.ref c143), .val (.ref c146), .val (.ref a150), .unset, .unset, .unset, .unset, .unset] d_prog_16m3_38 rfl rfl rfl ?_
  refine g_aloadN D150 40 d_prog_16m3_39 rfl rfl rfl ?_
  refine g_getF D150 43 (hw _ w_26) Via.refl (((((F3.ext E143).ext E146).keep K147 (ninS (Nat.ne_of_lt (Nat.lt_of_lt_of_le E_b.lt z143)) nin0)).keep K148 (ninS (Nat.ne_of_lt (Nat.lt_of_lt_of_le (Nat.lt_of_lt_of_le E_b.lt E143.1) z146)) nin0)).ext E150) d_prog_16m3_40 rfl ?_
  intro T151 D151
  refine g_newPE D151 45 (aty := .long) (hw _ w_16) d_prog_16m3_43 (by decide) (cap := 2) (by decide) (by decide) (by decide) (by decide) (ad := "[J") (by decide) (fun _ _ => trivial) rfl ?_
  intro T152 h152 a152 k152 g152 E152 V152 A152 D152
  have V152' : Arv Z h152 a152 k152 .long (2 : Int32) [(.long (0 : Int64)), (.long (0 : Int64))] (.long (0 : Int64)) := V152.pad (pad_rep [] (.long (0 : Int64)) 2)
  refine g_astore D152 47 #[.val (.ref b), .val (.ref c143), .val (.ref c146), .val (.ref a150), .val (.ref a152), .unset, .unset, .unset, .unset] d_prog_16m3_45 rfl rfl rfl ?_
  refine g_iconst D152 48 (0 : Int32) d_prog_16m3_47 rfl rfl ?_
  refine g_istore D152 50 #[.val (.ref b), .val (.ref c143), .val (.ref c146), .val (.ref a150), .val (.ref a152), .val (.int (0 : Int32)), .unset, .unset, .unset] d_prog_16m3_48 rfl rfl ?_
  refine g_iconst D152 51 (0 : Int32) d_prog_16m3_50 rfl rfl ?_
  refine g_istore D152 53 #[.val (.ref b), .val (.ref c143), .val (.ref c146), .val (.ref a150), .val (.ref a152), .val (.int (0 : Int32)), .val (.int (0 : Int32)), .unset, .unset] d_prog_16m3_51 rfl rfl ?_
  refine g_iconst D152 54 (0 : Int32) d_prog_16m3_53 rfl rfl ?_
  refine g_istore D152 56 #[.val (.ref b), .val (.ref c143), .val (.ref c146), .val (.ref a150), .val (.ref a152), .val (.int (0 : Int32)), .val (.int (0 : Int32)), .val (.int (0 : Int32)), .unset] d_prog_16m3_54 rfl rfl ?_
  refine g_iconst D152 57 (0 : Int32) d_prog_16m3_56 rfl rfl ?_
  refine g_istore D152 59 #[.val (.ref b), .val (.ref c143), .val (.ref c146), .val (.ref a150), .val (.ref a152), .val (.int (0 : Int32)), .val (.int (0 : Int32)), .val (.int (0 : Int32)), .val (.int (0 : Int32))] d_prog_16m3_57 rfl rfl ?_
  refine g_iload D152 61 d_prog_16m3_59 rfl rfl ?_
  refine g_aloadN D152 62 d_prog_16m3_61 rfl rfl rfl ?_
  refine g_getF D152 65 (hw _ w_26) Via.refl ((((((F3.ext E143).ext E146).keep K147 (ninS (Nat.ne_of_lt (Nat.lt_of_lt_of_le E_b.lt z143)) nin0)).keep K148 (ninS (Nat.ne_of_lt (Nat.lt_of_lt_of_le (Nat.lt_of_lt_of_le E_b.lt E143.1) z146)) nin0)).ext E150).ext E152) d_prog_16m3_62 rfl ?_
  intro T153 D153
  refine g_icmpN D153 68 d_prog_16m3_65 (by decide) rfl ?_
  refine g_aloadN D153 69 d_prog_16m3_68 rfl rfl rfl ?_
  refine g_iload D153 71 d_prog_16m3_69 rfl rfl ?_
  have i1 : ¬ own_mn e1 e2 < own_mn f1 f2 := own_i1 hf1 hf2
  have i2 : ¬ own_mx e1 e2 < own_mx f1 f2 := own_i2 hf1 hf2
  refine g_laload D153 72 ((V148.ext E150).ext E152) ⟨by decide, by decide⟩ rfl d_prog_16m3_71 rfl ?_
  refine g_aloadN D153 73 d_prog_16m3_72 rfl rfl rfl ?_
  refine g_iload D153 75 d_prog_16m3_73 rfl rfl ?_
  refine g_laload D153 76 (((V147.keep K148 (ninS (Nat.ne_of_lt (Nat.lt_of_lt_of_le V143.lt z146)) nin0)).ext E150).ext E152) ⟨by decide, by decide⟩ rfl d_prog_16m3_75 rfl ?_
  refine g_lcmp D153 77 d_prog_16m3_76 rfl ?_
  refine g_ifY D153 107 d_prog_16m3_77 (flt (clt_f i1)).2.1 (by decide) (by decide) ?_
  refine g_iload D153 109 d_prog_16m3_107 rfl rfl ?_
  refine g_ifN D153 112 d_prog_16m3_109 (by decide) rfl ?_
  refine g_aloadN D153 113 d_prog_16m3_112 rfl rfl rfl ?_
  refine g_iload D153 115 d_prog_16m3_113 rfl rfl ?_
  refine g_iinc D153 118 (1 : Int32) #[.val (.ref b), .val (.ref c143), .val (.ref c146), .val (.ref a150), .val (.ref a152), .val (.int ((0 : Int32) + (1 : Int32))), .val (.int (0 : Int32)), .val (.int (0 : Int32)), .val (.int (0 : Int32))] d_prog_16m3_115 rfl rfl rfl rfl ?_
  rw [show ((0 : Int32) + (1 : Int32)) = (1 : Int32) from by decide]
  refine g_aloadN D153 119 d_prog_16m3_118 rfl rfl rfl ?_
  refine g_iload D153 121 d_prog_16m3_119 rfl rfl ?_
  refine g_laload D153 122 (((V147.keep K148 (ninS (Nat.ne_of_lt (Nat.lt_of_lt_of_le V143.lt z146)) nin0)).ext E150).ext E152) ⟨by decide, by decide⟩ rfl d_prog_16m3_121 rfl ?_
  refine g_lastore D153 123 (V150'.ext E152) ⟨by decide, by decide⟩ 0 (by decide) (Nat.le_of_ble_eq_true rfl) (fun _ _ => trivial) d_prog_16m3_122 rfl ?_
  intro T154 h154 W154 V154 D154
  replace V154 : Arv Z h154 a150 k150 .long (2 : Int32) [(.long (own_mn f1 f2)), (.long (0 : Int64))] (.long (0 : Int64)) := V154
  have N154 := Fr.snoc D154.st NF148 (Nat.le_trans (Nat.le_trans (Nat.le_trans (Nat.le_trans (Nat.le_trans Z0 E143.1) E146.1) K147.1) K148.1) (Nat.le_of_eq g150.symm))
  refine g_iinc D154 126 (1 : Int32) #[.val (.ref b), .val (.ref c143), .val (.ref c146), .val (.ref a150), .val (.ref a152), .val (.int (1 : Int32)), .val (.int ((0 : Int32) + (1 : Int32))), .val (.int (0 : Int32)), .val (.int (0 : Int32))] d_prog_16m3_123 rfl rfl rfl rfl ?_
  rw [show ((0 : Int32) + (1 : Int32)) = (1 : Int32) from by decide]
  refine g_iinc D154 129 (1 : Int32) #[.val (.ref b), .val (.ref c143), .val (.ref c146), .val (.ref a150), .val (.ref a152), .val (.int (1 : Int32)), .val (.int (1 : Int32)), .val (.int (0 : Int32)), .val (.int ((0 : Int32) + (1 : Int32)))] d_prog_16m3_126 rfl rfl rfl rfl ?_
  rw [show ((0 : Int32) + (1 : Int32)) = (1 : Int32) from by decide]
  refine g_goto D154 59 d_prog_16m3_129 (by decide) (by decide) ?_
  refine g_iload D154 61 d_prog_16m3_59 rfl rfl ?_
  refine g_aloadN D154 62 d_prog_16m3_61 rfl rfl rfl ?_
  refine g_getF D154 65 (hw _ w_26) Via.refl (((((((F3.ext E143).ext E146).keep K147 (ninS (Nat.ne_of_lt (Nat.lt_of_lt_of_le E_b.lt z143)) nin0)).keep K148 (ninS (Nat.ne_of_lt (Nat.lt_of_lt_of_le (Nat.lt_of_lt_of_le E_b.lt E143.1) z146)) nin0)).ext E150).ext E152).other W154 (Or.inl (Nat.ne_of_lt (Nat.lt_of_lt_of_le (Nat.lt_of_lt_of_le (Nat.lt_of_lt_of_le (Nat.lt_of_lt_of_le (Nat.lt_of_lt_of_le E_b.lt E143.1) E146.1) K147.1) K148.1) (Nat.le_of_eq g150.symm))))) d_prog_16m3_62 rfl ?_
  intro T155 D155
  refine g_icmpN D155 68 d_prog_16m3_65 (by decide) rfl ?_
  refine g_aloadN D155 69 d_prog_16m3_68 rfl rfl rfl ?_
  refine g_iload D155 71 d_prog_16m3_69 rfl rfl ?_
  refine g_laload D155 72 (((V148.ext E150).ext E152).other W154 (Nat.ne_of_lt (Nat.lt_of_lt_of_le (Nat.lt_of_lt_of_le (Nat.lt_of_lt_of_le V146.lt K147.1) K148.1) (Nat.le_of_eq g150.symm)))) ⟨by decide, by decide⟩ rfl d_prog_16m3_71 rfl ?_
  refine g_aloadN D155 73 d_prog_16m3_72 rfl rfl rfl ?_
  refine g_iload D155 75 d_prog_16m3_73 rfl rfl ?_
  refine g_laload D155 76 ((((V147.keep K148 (ninS (Nat.ne_of_lt (Nat.lt_of_lt_of_le V143.lt z146)) nin0)).ext E150).ext E152).other W154 (Nat.ne_of_lt (Nat.lt_of_lt_of_le (Nat.lt_of_lt_of_le (Nat.lt_of_lt_of_le (Nat.lt_of_lt_of_le V143.lt E146.1) K147.1) K148.1) (Nat.le_of_eq g150.symm)))) ⟨by decide, by decide⟩ rfl d_prog_16m3_75 rfl ?_
  refine g_lcmp D155 77 d_prog_16m3_76 rfl ?_
  by_cases hj : (own_mn e1 e2) < (own_mx f1 f2)
  · refine g_ifN D155 80 d_prog_16m3_77 (tlt (clt_t hj)).2.1 rfl ?_
    refine g_iinc D155 83 (-1 : Int32) #[.val (.ref b), .val (.ref c143), .val (.ref c146), .val (.ref a150), .val (.ref a152), .val (.int (1 : Int32)), .val (.int ((1 : Int32) + (-1 : Int32))), .val (.int (0 : Int32)), .val (.int (1 : Int32))] d_prog_16m3_80 rfl rfl rfl rfl ?_
    rw [show ((1 : Int32) + (-1 : Int32)) = (0 : Int32) from by decide]
    refine g_iinc D155 86 (1 : Int32) #[.val (.ref b), .val (.ref c143), .val (.ref c146), .val (.ref a150), .val (.ref a152), .val (.int (1 : Int32)), .val (.int (0 : Int32)), .val (.int ((0 : Int32) + (1 : Int32))), .val (.int (1 : Int32))] d_prog_16m3_83 rfl rfl rfl rfl ?_
    rw [show ((0 : Int32) + (1 : Int32)) = (1 : Int32) from by decide]
    refine g_iload D155 88 d_prog_16m3_86 rfl rfl ?_
    refine g_ifN D155 91 d_prog_16m3_88 (by decide) rfl ?_
    refine g_aload D155 93 d_prog_16m3_91 rfl rfl rfl ?_
    refine g_iload D155 95 d_prog_16m3_93 rfl rfl ?_
    refine g_iconst D155 96 (1 : Int32) d_prog_16m3_95 rfl rfl ?_
    refine g_isub D155 97 d_prog_16m3_96 rfl ?_
    rw [show ((1 : Int32) - (1 : Int32)) = (0 : Int32) from by decide]
    refine g_aloadN D155 98 d_prog_16m3_97 rfl rfl rfl ?_
    refine g_iload D155 100 d_prog_16m3_98 rfl rfl ?_
    refine g_iconst D155 101 (1 : Int32) d_prog_16m3_100 rfl rfl ?_
    refine g_isub D155 102 d_prog_16m3_101 rfl ?_
    rw [show ((1 : Int32) - (1 : Int32)) = (0 : Int32) from by decide]
    refine g_laload D155 103 (((V148.ext E150).ext E152).other W154 (Nat.ne_of_lt (Nat.lt_of_lt_of_le (Nat.lt_of_lt_of_le (Nat.lt_of_lt_of_le V146.lt K147.1) K148.1) (Nat.le_of_eq g150.symm)))) ⟨by decide, by decide⟩ rfl d_prog_16m3_102 rfl ?_
    refine g_lastore D155 104 (V152'.other W154 (Ne.symm (Nat.ne_of_lt (Nat.lt_of_lt_of_le A150.lt (Nat.le_of_eq g152.symm))))) ⟨by decide, by decide⟩ 0 (by decide) (Nat.le_of_ble_eq_true rfl) (fun _ _ => trivial) d_prog_16m3_103 rfl ?_
    intro T156 h156 W156 V156 D156
    replace V156 : Arv Z h156 a152 k152 .long (2 : Int32) [(.long (own_mn e1 e2)), (.long (0 : Int64))] (.long (0 : Int64)) := V156
    have N156 := Fr.snoc D156.st N154 (Nat.le_trans (Nat.le_trans (Nat.le_trans (Nat.le_trans (Nat.le_trans (Nat.le_trans Z0 E143.1) E146.1) K147.1) K148.1) E150.1) (Nat.le_of_eq g152.symm))
    refine g_goto D156 68 d_prog_16m3_104 (by decide) (by decide) ?_
    refine g_aloadN D156 69 d_prog_16m3_68 rfl rfl rfl ?_
    refine g_iload D156 71 d_prog_16m3_69 rfl rfl ?_
    refine g_laload D156 72 ((((V148.ext E150).ext E152).other W154 (Nat.ne_of_lt (Nat.lt_of_lt_of_le (Nat.lt_of_lt_of_le (Nat.lt_of_lt_of_le V146.lt K147.1) K148.1) (Nat.le_of_eq g150.symm)))).other W156 (Nat.ne_of_lt (Nat.lt_of_lt_of_le (Nat.lt_of_lt_of_le (Nat.lt_of_lt_of_le (Nat.lt_of_lt_of_le V146.lt K147.1) K148.1) E150.1) (Nat.le_of_eq g152.symm)))) ⟨by decide, by decide⟩ rfl d_prog_16m3_71 rfl ?_
    refine g_aloadN D156 73 d_prog_16m3_72 rfl rfl rfl ?_
    refine g_iload D156 75 d_prog_16m3_73 rfl rfl ?_
    refine g_laload D156 76 (((((V147.keep K148 (ninS (Nat.ne_of_lt (Nat.lt_of_lt_of_le V143.lt z146)) nin0)).ext E150).ext E152).other W154 (Nat.ne_of_lt (Nat.lt_of_lt_of_le (Nat.lt_of_lt_of_le (Nat.lt_of_lt_of_le (Nat.lt_of_lt_of_le V143.lt E146.1) K147.1) K148.1) (Nat.le_of_eq g150.symm)))).other W156 (Nat.ne_of_lt (Nat.lt_of_lt_of_le (Nat.lt_of_lt_of_le (Nat.lt_of_lt_of_le (Nat.lt_of_lt_of_le (Nat.lt_of_lt_of_le V143.lt E146.1) K147.1) K148.1) E150.1) (Nat.le_of_eq g152.symm)))) ⟨by decide, by decide⟩ rfl d_prog_16m3_75 rfl ?_
    refine g_lcmp D156 77 d_prog_16m3_76 rfl ?_
    refine g_ifY D156 107 d_prog_16m3_77 (flt (clt_f i2)).2.1 (by decide) (by decide) ?_
    refine g_iload D156 109 d_prog_16m3_107 rfl rfl ?_
    refine g_ifN D156 112 d_prog_16m3_109 (by decide) rfl ?_
    refine g_aloadN D156 113 d_prog_16m3_112 rfl rfl rfl ?_
    refine g_iload D156 115 d_prog_16m3_113 rfl rfl ?_
    refine g_iinc D156 118 (1 : Int32) #[.val (.ref b), .val (.ref c143), .val (.ref c146), .val (.ref a150), .val (.ref a152), .val (.int ((1 : Int32) + (1 : Int32))), .val (.int (0 : Int32)), .val (.int (1 : Int32)), .val (.int (1 : Int32))] d_prog_16m3_115 rfl rfl rfl rfl ?_
    rw [show ((1 : Int32) + (1 : Int32)) = (2 : Int32) from by decide]
    refine g_aloadN D156 119 d_prog_16m3_118 rfl rfl rfl ?_
    refine g_iload D156 121 d_prog_16m3_119 rfl rfl ?_
    refine g_laload D156 122 (((((V147.keep K148 (ninS (Nat.ne_of_lt (Nat.lt_of_lt_of_le V143.lt z146)) nin0)).ext E150).ext E152).other W154 (Nat.ne_of_lt (Nat.lt_of_lt_of_le (Nat.lt_of_lt_of_le (Nat.lt_of_lt_of_le (Nat.lt_of_lt_of_le V143.lt E146.1) K147.1) K148.1) (Nat.le_of_eq g150.symm)))).other W156 (Nat.ne_of_lt (Nat.lt_of_lt_of_le (Nat.lt_of_lt_of_le (Nat.lt_of_lt_of_le (Nat.lt_of_lt_of_le (Nat.lt_of_lt_of_le V143.lt E146.1) K147.1) K148.1) E150.1) (Nat.le_of_eq g152.symm)))) ⟨by decide, by decide⟩ rfl d_prog_16m3_121 rfl ?_
    refine g_lastore D156 123 (V154.other W156 (Nat.ne_of_lt (Nat.lt_of_lt_of_le A150.lt (Nat.le_of_eq g152.symm)))) ⟨by decide, by decide⟩ 1 (by decide) (Nat.le_of_ble_eq_true rfl) (fun _ _ => trivial) d_prog_16m3_122 rfl ?_
    intro T157 h157 W157 V157 D157
    replace V157 : Arv Z h157 a150 k150 .long (2 : Int32) [(.long (own_mn f1 f2)), (.long (own_mx f1 f2))] (.long (0 : Int64)) := V157
    have N157 := Fr.snoc D157.st N156 (Nat.le_trans (Nat.le_trans (Nat.le_trans (Nat.le_trans (Nat.le_trans Z0 E143.1) E146.1) K147.1) K148.1) (Nat.le_of_eq g150.symm))
    refine g_iinc D157 126 (1 : Int32) #[.val (.ref b), .val (.ref c143), .val (.ref c146), .val (.ref a150), .val (.ref a152), .val (.int (2 : Int32)), .val (.int ((0 : Int32) + (1 : Int32))), .val (.int (1 : Int32)), .val (.int (1 : Int32))] d_prog_16m3_123 rfl rfl rfl rfl ?_
    rw [show ((0 : Int32) + (1 : Int32)) = (1 : Int32) from by decide]
    refine g_iinc D157 129 (1 : Int32) #[.val (.ref b), .val (.ref c143), .val (.ref c146), .val (.ref a150), .val (.ref a152), .val (.int (2 : Int32)), .val (.int (1 : Int32)), .val (.int (1 : Int32)), .val (.int ((1 : Int32) + (1 : Int32)))] d_prog_16m3_126 rfl rfl rfl rfl ?_
    rw [show ((1 : Int32) + (1 : Int32)) = (2 : Int32) from by decide]
    refine g_goto D157 59 d_prog_16m3_129 (by decide) (by decide) ?_
    refine g_iload D157 61 d_prog_16m3_59 rfl rfl ?_
    refine g_aloadN D157 62 d_prog_16m3_61 rfl rfl rfl ?_
    refine g_getF D157 65 (hw _ w_26) Via.refl (((((((((F3.ext E143).ext E146).keep K147 (ninS (Nat.ne_of_lt (Nat.lt_of_lt_of_le E_b.lt z143)) nin0)).keep K148 (ninS (Nat.ne_of_lt (Nat.lt_of_lt_of_le (Nat.lt_of_lt_of_le E_b.lt E143.1) z146)) nin0)).ext E150).ext E152).other W154 (Or.inl (Nat.ne_of_lt (Nat.lt_of_lt_of_le (Nat.lt_of_lt_of_le (Nat.lt_of_lt_of_le (Nat.lt_of_lt_of_le (Nat.lt_of_lt_of_le E_b.lt E143.1) E146.1) K147.1) K148.1) (Nat.le_of_eq g150.symm))))).other W156 (Or.inl (Nat.ne_of_lt (Nat.lt_of_lt_of_le (Nat.lt_of_lt_of_le (Nat.lt_of_lt_of_le (Nat.lt_of_lt_of_le (Nat.lt_of_lt_of_le (Nat.lt_of_lt_of_le E_b.lt E143.1) E146.1) K147.1) K148.1) E150.1) (Nat.le_of_eq g152.symm))))).other W157 (Or.inl (Nat.ne_of_lt (Nat.lt_of_lt_of_le (Nat.lt_of_lt_of_le (Nat.lt_of_lt_of_le (Nat.lt_of_lt_of_le (Nat.lt_of_lt_of_le E_b.lt E143.1) E146.1) K147.1) K148.1) (Nat.le_of_eq g150.symm))))) d_prog_16m3_62 rfl ?_
    intro T158 D158
    refine g_icmpY D158 132 d_prog_16m3_65 (by decide) (by decide) (by decide) ?_
    refine g_aloadN D158 133 d_prog_16m3_132 rfl rfl rfl ?_
    refine g_getF D158 136 (hw _ w_26) Via.refl (((((((((F3.ext E143).ext E146).keep K147 (ninS (Nat.ne_of_lt (Nat.lt_of_lt_of_le E_b.lt z143)) nin0)).keep K148 (ninS (Nat.ne_of_lt (Nat.lt_of_lt_of_le (Nat.lt_of_lt_of_le E_b.lt E143.1) z146)) nin0)).ext E150).ext E152).other W154 (Or.inl (Nat.ne_of_lt (Nat.lt_of_lt_of_le (Nat.lt_of_lt_of_le (Nat.lt_of_lt_of_le (Nat.lt_of_lt_of_le (Nat.lt_of_lt_of_le E_b.lt E143.1) E146.1) K147.1) K148.1) (Nat.le_of_eq g150.symm))))).other W156 (Or.inl (Nat.ne_of_lt (Nat.lt_of_lt_of_le (Nat.lt_of_lt_of_le (Nat.lt_of_lt_of_le (Nat.lt_of_lt_of_le (Nat.lt_of_lt_of_le (Nat.lt_of_lt_of_le E_b.lt E143.1) E146.1) K147.1) K148.1) E150.1) (Nat.le_of_eq g152.symm))))).other W157 (Or.inl (Nat.ne_of_lt (Nat.lt_of_lt_of_le (Nat.lt_of_lt_of_le (Nat.lt_of_lt_of_le (Nat.lt_of_lt_of_le (Nat.lt_of_lt_of_le E_b.lt E143.1) E146.1) K147.1) K148.1) (Nat.le_of_eq g150.symm))))) d_prog_16m3_133 rfl ?_
    intro T159 D159
    refine g_ifN D159 139 d_prog_16m3_136 (by decide) rfl ?_
    refine g_aload D159 141 d_prog_16m3_139 rfl rfl rfl ?_
    refine g_iload D159 143 d_prog_16m3_141 rfl rfl ?_
    refine g_iconst D159 144 (1 : Int32) d_prog_16m3_143 rfl rfl ?_
    refine g_isub D159 145 d_prog_16m3_144 rfl ?_
    rw [show ((2 : Int32) - (1 : Int32)) = (1 : Int32) from by decide]
    refine g_aloadN D159 146 d_prog_16m3_145 rfl rfl rfl ?_
    refine g_aloadN D159 147 d_prog_16m3_146 rfl rfl rfl ?_
    refine g_getF D159 150 (hw _ w_26) Via.refl (((((((((F3.ext E143).ext E146).keep K147 (ninS (Nat.ne_of_lt (Nat.lt_of_lt_of_le E_b.lt z143)) nin0)).keep K148 (ninS (Nat.ne_of_lt (Nat.lt_of_lt_of_le (Nat.lt_of_lt_of_le E_b.lt E143.1) z146)) nin0)).ext E150).ext E152).other W154 (Or.inl (Nat.ne_of_lt (Nat.lt_of_lt_of_le (Nat.lt_of_lt_of_le (Nat.lt_of_lt_of_le (Nat.lt_of_lt_of_le (Nat.lt_of_lt_of_le E_b.lt E143.1) E146.1) K147.1) K148.1) (Nat.le_of_eq g150.symm))))).other W156 (Or.inl (Nat.ne_of_lt (Nat.lt_of_lt_of_le (Nat.lt_of_lt_of_le (Nat.lt_of_lt_of_le (Nat.lt_of_lt_of_le (Nat.lt_of_lt_of_le (Nat.lt_of_lt_of_le E_b.lt E143.1) E146.1) K147.1) K148.1) E150.1) (Nat.le_of_eq g152.symm))))).other W157 (Or.inl (Nat.ne_of_lt (Nat.lt_of_lt_of_le (Nat.lt_of_lt_of_le (Nat.lt_of_lt_of_le (Nat.lt_of_lt_of_le (Nat.lt_of_lt_of_le E_b.lt E143.1) E146.1) K147.1) K148.1) (Nat.le_of_eq g150.symm))))) d_prog_16m3_147 rfl ?_
    intro T160 D160
    refine g_iconst D160 151 (1 : Int32) d_prog_16m3_150 rfl rfl ?_
    refine g_isub D160 152 d_prog_16m3_151 rfl ?_
    rw [show ((2 : Int32) - (1 : Int32)) = (1 : Int32) from by decide]
    refine g_laload D160 153 (((((V148.ext E150).ext E152).other W154 (Nat.ne_of_lt (Nat.lt_of_lt_of_le (Nat.lt_of_lt_of_le (Nat.lt_of_lt_of_le V146.lt K147.1) K148.1) (Nat.le_of_eq g150.symm)))).other W156 (Nat.ne_of_lt (Nat.lt_of_lt_of_le (Nat.lt_of_lt_of_le (Nat.lt_of_lt_of_le (Nat.lt_of_lt_of_le V146.lt K147.1) K148.1) E150.1) (Nat.le_of_eq g152.symm)))).other W157 (Nat.ne_of_lt (Nat.lt_of_lt_of_le (Nat.lt_of_lt_of_le (Nat.lt_of_lt_of_le V146.lt K147.1) K148.1) (Nat.le_of_eq g150.symm)))) ⟨by decide, by decide⟩ rfl d_prog_16m3_152 rfl ?_
    refine g_lastore D160 154 (V156.other W157 (Ne.symm (Nat.ne_of_lt (Nat.lt_of_lt_of_le A150.lt (Nat.le_of_eq g152.symm))))) ⟨by decide, by decide⟩ 1 (by decide) (Nat.le_of_ble_eq_true rfl) (fun _ _ => trivial) d_prog_16m3_153 rfl ?_
    intro T161 h161 W161 V161 D161
    replace V161 : Arv Z h161 a152 k152 .long (2 : Int32) [(.long (own_mn e1 e2)), (.long (own_mx e1 e2))] (.long (0 : Int64)) := V161
    have N161 := Fr.snoc D161.st N157 (Nat.le_trans (Nat.le_trans (Nat.le_trans (Nat.le_trans (Nat.le_trans (Nat.le_trans Z0 E143.1) E146.1) K147.1) K148.1) E150.1) (Nat.le_of_eq g152.symm))
    refine g_newO D161 157 (hw _ w_57) (hw _ w_58) (hw _ w_59) d_prog_16m3_154 (by decide) (by decide) (fun _ _ => trivial) rfl ?_
    intro T162 h162 a162 g162 E162 A162 N162 D162
    refine g_dup D162 158 d_prog_16m3_157 rfl rfl ?_
    refine g_aloadN D162 159 d_prog_16m3_158 rfl rfl rfl ?_
    refine g_iload D162 161 d_prog_16m3_159 rfl rfl ?_
    refine g_callS D162 164 (hw _ w_33) (hw _ w_34) (hw _ w_35) (hw _ w_36) (by decide) ((cCpC l Z a0 hw [] a150 k150 (own_mn f1 f2) (own_mx f1 f2) h162 n0 (Nat.le_trans (Nat.le_trans (Nat.le_trans (Nat.le_trans (Nat.le_trans (Nat.le_trans (Nat.le_trans (Nat.le_trans (Nat.le_trans (Nat.le_trans (Nat.le_trans Z0 E143.1) E146.1) K147.1) K148.1) E150.1) E152.1) (Keep.of_wr W154).1) (Keep.of_wr W156).1) (Keep.of_wr W157).1) (Keep.of_wr W161).1) E162.1) ((V157.other W161 (Nat.ne_of_lt (Nat.lt_of_lt_of_le A150.lt (Nat.le_of_eq g152.symm)))).ext E162) ((((((A150.ext E152).wr W154).wr W156).wr W157).wr W161).ext E162)).back D162 2 (hw _ w_36) (hw _ w_35) (by decide) (by decide)) rfl [(.ref a150), (.int (2 : Int32))] rfl (lenOf pd_4 rfl) rfl (Nat.le_of_eq rfl) (by decide) (by decide) (fun _ _ _ _ => trivial) d_prog_16m3_161 rfl ?_
    intro v163 T163 h163 L163 q163 D163
    obtain ⟨N163, c163, k163, rfl, z163, E163, V163⟩ := q163
    have NF163 := Fr.app N161 N163
    show Go p e below _ (T163.setTop (mkF m 164 #[.val (.ref b), .val (.ref c143), .val (.ref c146), .val (.ref a150), .val (.ref a152), .val (.int (2 : Int32)), .val (.int (1 : Int32)), .val (.int (1 : Int32)), .val (.int (2 : Int32))] [(.ref c163), (.ref a162), (.ref a162)]))
    refine g_aload D163 166 d_prog_16m3_164 rfl rfl rfl ?_
    refine g_iload D163 168 d_prog_16m3_166 rfl rfl ?_
    refine g_callS D163 171 (hw _ w_33) (hw _ w_34) (hw _ w_35) (hw _ w_36) (by decide) ((cCpC l Z a0 hw [] a152 k152 (own_mn e1 e2) (own_mx e1 e2) h163 n0 (Nat.le_trans (Nat.le_trans (Nat.le_trans (Nat.le_trans (Nat.le_trans (Nat.le_trans (Nat.le_trans (Nat.le_trans (Nat.le_trans (Nat.le_trans (Nat.le_trans (Nat.le_trans Z0 E143.1) E146.1) K147.1) K148.1) E150.1) E152.1) (Keep.of_wr W154).1) (Keep.of_wr W156).1) (Keep.of_wr W157).1) (Keep.of_wr W161).1) E162.1) E163.1) ((V161.ext E162).ext E163) ((((((A152.wr W154).wr W156).wr W157).wr W161).ext E162).ext E163)).back D163 3 (hw _ w_36) (hw _ w_35) (by decide) (by decide)) rfl [(.ref a152), (.int (2 : Int32))] rfl (lenOf pd_4 rfl) rfl (Nat.le_of_eq rfl) (by decide) (by decide) (fun _ _ _ _ => trivial) d_prog_16m3_168 rfl ?_
    intro v164 T164 h164 L164 q164 D164
    obtain ⟨N164, c164, k164, rfl, z164, E164, V164⟩ := q164
    have NF164 := Fr.app NF163 N164
    show Go p e below _ (T164.setTop (mkF m 171 #[.val (.ref b), .val (.ref c143), .val (.ref c146), .val (.ref a150), .val (.ref a152), .val (.int (2 : Int32)), .val (.int (1 : Int32)), .val (.int (1 : Int32)), .val (.int (2 : Int32))] [(.ref c164), (.ref c163), (.ref a162), (.ref a162)]))
    refine g_callNN D164 174 rfl (hw _ w_60) (hw _ w_61) (hw _ w_62) (by decide) ((cHI l Z a0 hw [] a162 c163 c164 h164 n0 (Nat.le_trans (Nat.le_trans (Nat.le_trans (Nat.le_trans (Nat.le_trans (Nat.le_trans (Nat.le_trans (Nat.le_trans (Nat.le_trans (Nat.le_trans (Nat.le_trans (Nat.le_trans (Nat.le_trans Z0 E143.1) E146.1) K147.1) K148.1) E150.1) E152.1) (Keep.of_wr W154).1) (Keep.of_wr W156).1) (Keep.of_wr W157).1) (Keep.of_wr W161).1) E162.1) E163.1) E164.1) ((A162.ext E163).ext E164) (((N162 (Or.inr (hw _ w_65)) (ty := (.array .long)) (by decide)).ext E163).ext E164) (((N162 (Or.inr (hw _ w_67)) (ty := (.array .long)) (by decide)).ext E163).ext E164) (Nat.le_trans (Nat.le_trans (Nat.le_trans (Nat.le_trans (Nat.le_trans (Nat.le_trans (Nat.le_trans (Nat.le_trans (Nat.le_trans (Nat.le_trans (Nat.le_trans Z0 E143.1) E146.1) K147.1) K148.1) E150.1) E152.1) (Keep.of_wr W154).1) (Keep.of_wr W156).1) (Keep.of_wr W157).1) (Keep.of_wr W161).1) (Nat.le_of_eq g162.symm))).back D164 1 (hw _ w_62) (hw _ w_59) (by decide) (by decide)) rfl [(.ref c163), (.ref c164)] rfl (lenOf pd_6 rfl) rfl (Nat.le_of_eq rfl) (by decide) (by decide) (fun _ _ _ _ => trivial) d_prog_16m3_171 rfl ?_
    intro v165 T165 h165 L165 q165 D165
    obtain ⟨rfl, N165, K165, A165, P165, R165⟩ := q165
    have NF165 := Fr.app NF164 N165
    show Go p e below _ (T165.setTop (mkF m 174 #[.val (.ref b), .val (.ref c143), .val (.ref c146), .val (.ref a150), .val (.ref a152), .val (.int (2 : Int32)), .val (.int (1 : Int32)), .val (.int (1 : Int32)), .val (.int (2 : Int32))] [(.ref a162)]))
    exact r_A D165 hret rfl rfl hlk d_prog_16m3_174 ⟨a162, c163, c164, _, _, rfl, NF165, Keep.toExt (((((((((((((((Keep.refl _ []).ext E143).ext E146).trans K147 (allS (Or.inr (Nat.le_trans (Nat.le_refl _) z143)) all0)).trans K148 (allS (Or.inr (Nat.le_trans (Nat.le_trans (Nat.le_refl _) E143.1) z146)) all0)).ext E150).ext E152).wr W154 (Or.inr (Nat.le_trans (Nat.le_trans (Nat.le_trans (Nat.le_trans (Nat.le_trans (Nat.le_refl _) E143.1) E146.1) K147.1) K148.1) (Nat.le_of_eq g150.symm)))).wr W156 (Or.inr (Nat.le_trans (Nat.le_trans (Nat.le_trans (Nat.le_trans (Nat.le_trans (Nat.le_trans (Nat.le_refl _) E143.1) E146.1) K147.1) K148.1) E150.1) (Nat.le_of_eq g152.symm)))).wr W157 (Or.inr (Nat.le_trans (Nat.le_trans (Nat.le_trans (Nat.le_trans (Nat.le_trans (Nat.le_refl _) E143.1) E146.1) K147.1) K148.1) (Nat.le_of_eq g150.symm)))).wr W161 (Or.inr (Nat.le_trans (Nat.le_trans (Nat.le_trans (Nat.le_trans (Nat.le_trans (Nat.le_trans (Nat.le_refl _) E143.1) E146.1) K147.1) K148.1) E150.1) (Nat.le_of_eq g152.symm)))).ext E162).ext E163).ext E164).trans K165 (allS (Or.inr (Nat.le_trans (Nat.le_trans (Nat.le_trans (Nat.le_trans (Nat.le_trans (Nat.le_trans (Nat.le_trans (Nat.le_trans (Nat.le_trans (Nat.le_trans (Nat.le_trans (Nat.le_refl _) E143.1) E146.1) K147.1) K148.1) E150.1) E152.1) (Keep.of_wr W154).1) (Keep.of_wr W156).1) (Keep.of_wr W157).1) (Keep.of_wr W161).1) (Nat.le_of_eq g162.symm))) all0)), A165, P165, R165, Or.inl ⟨hj, ((V163.ext E164).keep K165 (ninS (Ne.symm (Nat.ne_of_lt (Nat.lt_of_lt_of_le A162.lt z163))) nin0)), (V164.keep K165 (ninS (Ne.symm (Nat.ne_of_lt (Nat.lt_of_lt_of_le (Nat.lt_of_lt_of_le A162.lt E163.1) z164))) nin0))⟩⟩ (by decide) (by decide)
  · refine g_ifY D155 107 d_prog_16m3_77 (flt (clt_f hj)).2.1 (by decide) (by decide) ?_
    refine g_iload D155 109 d_prog_16m3_107 rfl rfl ?_
    refine g_ifY D155 123 d_prog_16m3_109 (by decide) (by decide) (by decide) ?_
    refine g_iinc D155 126 (1 : Int32) #[.val (.ref b), .val (.ref c143), .val (.ref c146), .val (.ref a150), .val (.ref a152), .val (.int (1 : Int32)), .val (.int ((1 : Int32) + (1 : Int32))), .val (.int (0 : Int32)), .val (.int (1 : Int32))] d_prog_16m3_123 rfl rfl rfl rfl ?_
    rw [show ((1 : Int32) + (1 : Int32)) = (2 : Int32) from by decide]
    refine g_iinc D155 129 (1 : Int32) #[.val (.ref b), .val (.ref c143), .val (.ref c146), .val (.ref a150), .val (.ref a152), .val (.int (1 : Int32)), .val (.int (2 : Int32)), .val (.int (0 : Int32)), .val (.int ((1 : Int32) + (1 : Int32)))] d_prog_16m3_126 rfl rfl rfl rfl ?_
    rw [show ((1 : Int32) + (1 : Int32)) = (2 : Int32) from by decide]
    refine g_goto D155 59 d_prog_16m3_129 (by decide) (by decide) ?_
    refine g_iload D155 61 d_prog_16m3_59 rfl rfl ?_
    refine g_aloadN D155 62 d_prog_16m3_61 rfl rfl rfl ?_
    refine g_getF D155 65 (hw _ w_26) Via.refl (((((((F3.ext E143).ext E146).keep K147 (ninS (Nat.ne_of_lt (Nat.lt_of_lt_of_le E_b.lt z143)) nin0)).keep K148 (ninS (Nat.ne_of_lt (Nat.lt_of_lt_of_le (Nat.lt_of_lt_of_le E_b.lt E143.1) z146)) nin0)).ext E150).ext E152).other W154 (Or.inl (Nat.ne_of_lt (Nat.lt_of_lt_of_le (Nat.lt_of_lt_of_le (Nat.lt_of_lt_of_le (Nat.lt_of_lt_of_le (Nat.lt_of_lt_of_le E_b.lt E143.1) E146.1) K147.1) K148.1) (Nat.le_of_eq g150.symm))))) d_prog_16m3_62 rfl ?_
    intro T166 D166
    refine g_icmpY D166 132 d_prog_16m3_65 (by decide) (by decide) (by decide) ?_
    refine g_aloadN D166 133 d_prog_16m3_132 rfl rfl rfl ?_
    refine g_getF D166 136 (hw _ w_26) Via.refl (((((((F3.ext E143).ext E146).keep K147 (ninS (Nat.ne_of_lt (Nat.lt_of_lt_of_le E_b.lt z143)) nin0)).keep K148 (ninS (Nat.ne_of_lt (Nat.lt_of_lt_of_le (Nat.lt_of_lt_of_le E_b.lt E143.1) z146)) nin0)).ext E150).ext E152).other W154 (Or.inl (Nat.ne_of_lt (Nat.lt_of_lt_of_le (Nat.lt_of_lt_of_le (Nat.lt_of_lt_of_le (Nat.lt_of_lt_of_le (Nat.lt_of_lt_of_le E_b.lt E143.1) E146.1) K147.1) K148.1) (Nat.le_of_eq g150.symm))))) d_prog_16m3_133 rfl ?_
    intro T167 D167
    refine g_ifN D167 139 d_prog_16m3_136 (by decide) rfl ?_
    refine g_aload D167 141 d_prog_16m3_139 rfl rfl rfl ?_
    refine g_iload D167 143 d_prog_16m3_141 rfl rfl ?_
    refine g_iconst D167 144 (1 : Int32) d_prog_16m3_143 rfl rfl ?_
    refine g_isub D167 145 d_prog_16m3_144 rfl ?_
    rw [show ((1 : Int32) - (1 : Int32)) = (0 : Int32) from by decide]
    refine g_aloadN D167 146 d_prog_16m3_145 rfl rfl rfl ?_
    refine g_aloadN D167 147 d_prog_16m3_146 rfl rfl rfl ?_
    refine g_getF D167 150 (hw _ w_26) Via.refl (((((((F3.ext E143).ext E146).keep K147 (ninS (Nat.ne_of_lt (Nat.lt_of_lt_of_le E_b.lt z143)) nin0)).keep K148 (ninS (Nat.ne_of_lt (Nat.lt_of_lt_of_le (Nat.lt_of_lt_of_le E_b.lt E143.1) z146)) nin0)).ext E150).ext E152).other W154 (Or.inl (Nat.ne_of_lt (Nat.lt_of_lt_of_le (Nat.lt_of_lt_of_le (Nat.lt_of_lt_of_le (Nat.lt_of_lt_of_le (Nat.lt_of_lt_of_le E_b.lt E143.1) E146.1) K147.1) K148.1) (Nat.le_of_eq g150.symm))))) d_prog_16m3_147 rfl ?_
    intro T168 D168
    refine g_iconst D168 151 (1 : Int32) d_prog_16m3_150 rfl rfl ?_
    refine g_isub D168 152 d_prog_16m3_151 rfl ?_
    rw [show ((2 : Int32) - (1 : Int32)) = (1 : Int32) from by decide]
    refine g_laload D168 153 (((V148.ext E150).ext E152).other W154 (Nat.ne_of_lt (Nat.lt_of_lt_of_le (Nat.lt_of_lt_of_le (Nat.lt_of_lt_of_le V146.lt K147.1) K148.1) (Nat.le_of_eq g150.symm)))) ⟨by decide, by decide⟩ rfl d_prog_16m3_152 rfl ?_
    refine g_lastore D168 154 (V152'.other W154 (Ne.symm (Nat.ne_of_lt (Nat.lt_of_lt_of_le A150.lt (Nat.le_of_eq g152.symm))))) ⟨by decide, by decide⟩ 0 (by decide) (Nat.le_of_ble_eq_true rfl) (fun _ _ => trivial) d_prog_16m3_153 rfl ?_
    intro T169 h169 W169 V169 D169
    replace V169 : Arv Z h169 a152 k152 .long (2 : Int32) [(.long (own_mx e1 e2)), (.long (0 : Int64))] (.long (0 : Int64)) := V169
    have N169 := Fr.snoc D169.st N154 (Nat.le_trans (Nat.le_trans (Nat.le_trans (Nat.le_trans (Nat.le_trans (Nat.le_trans Z0 E143.1) E146.1) K147.1) K148.1) E150.1) (Nat.le_of_eq g152.symm))
    refine g_newO D169 157 (hw _ w_57) (hw _ w_58) (hw _ w_59) d_prog_16m3_154 (by decide) (by decide) (fun _ _ => trivial) rfl ?_
    intro T170 h170 a170 g170 E170 A170 N170 D170
    refine g_dup D170 158 d_prog_16m3_157 rfl rfl ?_
    refine g_aloadN D170 159 d_prog_16m3_158 rfl rfl rfl ?_
    refine g_iload D170 161 d_prog_16m3_159 rfl rfl ?_
    refine g_callS D170 164 (hw _ w_33) (hw _ w_34) (hw _ w_35) (hw _ w_36) (by decide) ((cCpB l Z a0 hw [] a150 k150 (own_mn f1 f2) (0 : Int64) h170 n0 (Nat.le_trans (Nat.le_trans (Nat.le_trans (Nat.le_trans (Nat.le_trans (Nat.le_trans (Nat.le_trans (Nat.le_trans (Nat.le_trans Z0 E143.1) E146.1) K147.1) K148.1) E150.1) E152.1) (Keep.of_wr W154).1) (Keep.of_wr W169).1) E170.1) ((V154.other W169 (Nat.ne_of_lt (Nat.lt_of_lt_of_le A150.lt (Nat.le_of_eq g152.symm)))).ext E170)).back D170 2 (hw _ w_36) (hw _ w_35) (by decide) (by decide)) rfl [(.ref a150), (.int (1 : Int32))] rfl (lenOf pd_4 rfl) rfl (Nat.le_of_eq rfl) (by decide) (by decide) (fun _ _ _ _ => trivial) d_prog_16m3_161 rfl ?_
    intro v171 T171 h171 L171 q171 D171
    obtain ⟨N171, c171, k171, rfl, z171, E171, V171⟩ := q171
    have NF171 := Fr.app N169 N171
    show Go p e below _ (T171.setTop (mkF m 164 #[.val (.ref b), .val (.ref c143), .val (.ref c146), .val (.ref a150), .val (.ref a152), .val (.int (1 : Int32)), .val (.int (2 : Int32)), .val (.int (0 : Int32)), .val (.int (2 : Int32))] [(.ref c171), (.ref a170), (.ref a170)]))
    refine g_aload D171 166 d_prog_16m3_164 rfl rfl rfl ?_
    refine g_iload D171 168 d_prog_16m3_166 rfl rfl ?_
    refine g_callS D171 171 (hw _ w_33) (hw _ w_34) (hw _ w_35) (hw _ w_36) (by decide) ((cCpB l Z a0 hw [] a152 k152 (own_mx e1 e2) (0 : Int64) h171 n0 (Nat.le_trans (Nat.le_trans (Nat.le_trans (Nat.le_trans (Nat.le_trans (Nat.le_trans (Nat.le_trans (Nat.le_trans (Nat.le_trans (Nat.le_trans Z0 E143.1) E146.1) K147.1) K148.1) E150.1) E152.1) (Keep.of_wr W154).1) (Keep.of_wr W169).1) E170.1) E171.1) ((V169.ext E170).ext E171)).back D171 3 (hw _ w_36) (hw _ w_35) (by decide) (by decide)) rfl [(.ref a152), (.int (1 : Int32))] rfl (lenOf pd_4 rfl) rfl (Nat.le_of_eq rfl) (by decide) (by decide) (fun _ _ _ _ => trivial) d_prog_16m3_168 rfl ?_
    intro v172 T172 h172 L172 q172 D172
    obtain ⟨N172, c172, k172, rfl, z172, E172, V172⟩ := q172
    have NF172 := Fr.app NF171 N172
    show Go p e below _ (T172.setTop (mkF m 171 #[.val (.ref b), .val (.ref c143), .val (.ref c146), .val (.ref a150), .val (.ref a152), .val (.int (1 : Int32)), .val (.int (2 : Int32)), .val (.int (0 : Int32)), .val (.int (2 : Int32))] [(.ref c172), (.ref c171), (.ref a170), (.ref a170)]))
    refine g_callNN D172 174 rfl (hw _ w_60) (hw _ w_61) (hw _ w_62) (by decide) ((cHI l Z a0 hw [] a170 c171 c172 h172 n0 (Nat.le_trans (Nat.le_trans (Nat.le_trans (Nat.le_trans (Nat.le_trans (Nat.le_trans (Nat.le_trans (Nat.le_trans (Nat.le_trans (Nat.le_trans (Nat.le_trans Z0 E143.1) E146.1) K147.1) K148.1) E150.1) E152.1) (Keep.of_wr W154).1) (Keep.of_wr W169).1) E170.1) E171.1) E172.1) ((A170.ext E171).ext E172) (((N170 (Or.inr (hw _ w_65)) (ty := (.array .long)) (by decide)).ext E171).ext E172) (((N170 (Or.inr (hw _ w_67)) (ty := (.array .long)) (by decide)).ext E171).ext E172) (Nat.le_trans (Nat.le_trans (Nat.le_trans (Nat.le_trans (Nat.le_trans (Nat.le_trans (Nat.le_trans (Nat.le_trans (Nat.le_trans Z0 E143.1) E146.1) K147.1) K148.1) E150.1) E152.1) (Keep.of_wr W154).1) (Keep.of_wr W169).1) (Nat.le_of_eq g170.symm))).back D172 1 (hw _ w_62) (hw _ w_59) (by decide) (by decide)) rfl [(.ref c171), (.ref c172)] rfl (lenOf pd_6 rfl) rfl (Nat.le_of_eq rfl) (by decide) (by decide) (fun _ _ _ _ => trivial) d_prog_16m3_171 rfl ?_
    intro v173 T173 h173 L173 q173 D173
    obtain ⟨rfl, N173, K173, A173, P173, R173⟩ := q173
    have NF173 := Fr.app NF172 N173
    show Go p e below _ (T173.setTop (mkF m 174 #[.val (.ref b), .val (.ref c143), .val (.ref c146), .val (.ref a150), .val (.ref a152), .val (.int (1 : Int32)), .val (.int (2 : Int32)), .val (.int (0 : Int32)), .val (.int (2 : Int32))] [(.ref a170)]))
    exact r_A D173 hret rfl rfl hlk d_prog_16m3_174 ⟨a170, c171, c172, _, _, rfl, NF173, Keep.toExt (((((((((((((Keep.refl _ []).ext E143).ext E146).trans K147 (allS (Or.inr (Nat.le_trans (Nat.le_refl _) z143)) all0)).trans K148 (allS (Or.inr (Nat.le_trans (Nat.le_trans (Nat.le_refl _) E143.1) z146)) all0)).ext E150).ext E152).wr W154 (Or.inr (Nat.le_trans (Nat.le_trans (Nat.le_trans (Nat.le_trans (Nat.le_trans (Nat.le_refl _) E143.1) E146.1) K147.1) K148.1) (Nat.le_of_eq g150.symm)))).wr W169 (Or.inr (Nat.le_trans (Nat.le_trans (Nat.le_trans (Nat.le_trans (Nat.le_trans (Nat.le_trans (Nat.le_refl _) E143.1) E146.1) K147.1) K148.1) E150.1) (Nat.le_of_eq g152.symm)))).ext E170).ext E171).ext E172).trans K173 (allS (Or.inr (Nat.le_trans (Nat.le_trans (Nat.le_trans (Nat.le_trans (Nat.le_trans (Nat.le_trans (Nat.le_trans (Nat.le_trans (Nat.le_trans (Nat.le_refl _) E143.1) E146.1) K147.1) K148.1) E150.1) E152.1) (Keep.of_wr W154).1) (Keep.of_wr W169).1) (Nat.le_of_eq g170.symm))) all0)), A173, P173, R173, Or.inr ⟨hj, ((V171.ext E172).keep K173 (ninS (Ne.symm (Nat.ne_of_lt (Nat.lt_of_lt_of_le A170.lt z171))) nin0)), (V172.keep K173 (ninS (Ne.symm (Nat.ne_of_lt (Nat.lt_of_lt_of_le (Nat.lt_of_lt_of_le A170.lt E171.1) z172))) nin0))⟩⟩ (by decide) (by decide)

set_option maxRecDepth 65536 in
set_option maxHeartbeats 40000000 in
theorem cB0_1 (l : Launch) (Z : State) (a0 : Array Value) (hw : ∀ d ∈ tables_1, d.before a0 Z = true) (ws : List Jvm.Cond) (a : Addr) (ka : ClassId) (u0 q : Int64) (h0 : Heap) (n0 : Nat) (Z0 : n0 ≤ h0.size) (V : Arv Z h0 a ka .long (1 : Int32) [(.long u0)] (.long (0 : Int64))) :
    Con l (⟨"java/util/Arrays", "binarySearch0", "([JIIJ)I"⟩ : MethodName) jdk_65_method_56_code 10 (some .int) ws ({ frames := 0, cells := 0, slots := 0, locals := 0 } : Room) Z #[(.ref a), (.int (0 : Int32)), (.int (1 : Int32)), (.long q)] h0 (fun v h L => v = some (.int (own_bs1 u0 q)) ∧ L = [] ∧ h = h0) 0 0 := by
  refine enter (plainFor_of_name pn_1) ?_
  intro p e s m below meth c s₁ hnm hret hlk D0
  rw [ef_cB0_1 m a q]
  refine g_iloadN D0 1 d_jdk_65m56_0 rfl rfl ?_
  refine g_istore D0 3 #[.val (.ref a), .val (.int (0 : Int32)), .val (.int (1 : Int32)), .val (.long q), .second, .val (.int (0 : Int32)), .unset, .unset, .unset, .unset] d_jdk_65m56_1 rfl rfl ?_
  refine g_iloadN D0 4 d_jdk_65m56_3 rfl rfl ?_
  refine g_iconst D0 5 (1 : Int32) d_jdk_65m56_4 rfl rfl ?_
  refine g_isub D0 6 d_jdk_65m56_5 rfl ?_
  rw [show ((1 : Int32) - (1 : Int32)) = (0 : Int32) from by decide]
  refine g_istore D0 8 #[.val (.ref a), .val (.int (0 : Int32)), .val (.int (1 : Int32)), .val (.long q), .second, .val (.int (0 : Int32)), .val (.int (0 : Int32)), .unset, .unset, .unset] d_jdk_65m56_6 rfl rfl ?_
  refine g_iload D0 10 d_jdk_65m56_8 rfl rfl ?_
  refine g_iload D0 12 d_jdk_65m56_10 rfl rfl ?_
  refine g_icmpN D0 15 d_jdk_65m56_12 (by decide) rfl ?_
  refine g_iload D0 17 d_jdk_65m56_15 rfl rfl ?_
  refine g_iload D0 19 d_jdk_65m56_17 rfl rfl ?_
  refine g_iadd D0 20 d_jdk_65m56_19 rfl ?_
  rw [show ((0 : Int32) + (0 : Int32)) = (0 : Int32) from by decide]
  refine g_iconst D0 21 (1 : Int32) d_jdk_65m56_20 rfl rfl ?_
  refine g_iushr D0 22 d_jdk_65m56_21 rfl ?_
  rw [show (XT.ushr (0 : Int32) (1 : Int32)) = (0 : Int32) from by decide]
  refine g_istore D0 24 #[.val (.ref a), .val (.int (0 : Int32)), .val (.int (1 : Int32)), .val (.long q), .second, .val (.int (0 : Int32)), .val (.int (0 : Int32)), .val (.int (0 : Int32)), .unset, .unset] d_jdk_65m56_22 rfl rfl ?_
  refine g_aloadN D0 25 d_jdk_65m56_24 rfl rfl rfl ?_
  refine g_iload D0 27 d_jdk_65m56_25 rfl rfl ?_
  refine g_laload D0 28 V ⟨by decide, by decide⟩ rfl d_jdk_65m56_27 rfl ?_
  refine g_lstore D0 30 #[.val (.ref a), .val (.int (0 : Int32)), .val (.int (1 : Int32)), .val (.long q), .second, .val (.int (0 : Int32)), .val (.int (0 : Int32)), .val (.int (0 : Int32)), .val (.long u0), .second] d_jdk_65m56_28 rfl rfl ?_
  refine g_lload D0 32 d_jdk_65m56_30 rfl rfl ?_
  refine g_lloadN D0 33 d_jdk_65m56_32 rfl rfl ?_
  refine g_lcmp D0 34 d_jdk_65m56_33 rfl ?_
  by_cases hc174 : u0 < q
  · refine g_ifN D0 37 d_jdk_65m56_34 (tlt (clt_t hc174)).2.1 rfl ?_
    refine g_iload D0 39 d_jdk_65m56_37 rfl rfl ?_
    refine g_iconst D0 40 (1 : Int32) d_jdk_65m56_39 rfl rfl ?_
    refine g_iadd D0 41 d_jdk_65m56_40 rfl ?_
    rw [show ((0 : Int32) + (1 : Int32)) = (1 : Int32) from by decide]
    refine g_istore D0 43 #[.val (.ref a), .val (.int (0 : Int32)), .val (.int (1 : Int32)), .val (.long q), .second, .val (.int (1 : Int32)), .val (.int (0 : Int32)), .val (.int (0 : Int32)), .val (.long u0), .second] d_jdk_65m56_41 rfl rfl ?_
    refine g_goto D0 65 d_jdk_65m56_43 (by decide) (by decide) ?_
    refine g_goto D0 8 d_jdk_65m56_65 (by decide) (by decide) ?_
    refine g_iload D0 10 d_jdk_65m56_8 rfl rfl ?_
    refine g_iload D0 12 d_jdk_65m56_10 rfl rfl ?_
    refine g_icmpY D0 68 d_jdk_65m56_12 (by decide) (by decide) (by decide) ?_
    refine g_iload D0 70 d_jdk_65m56_68 rfl rfl ?_
    refine g_iconst D0 71 (1 : Int32) d_jdk_65m56_70 rfl rfl ?_
    refine g_iadd D0 72 d_jdk_65m56_71 rfl ?_
    rw [show ((1 : Int32) + (1 : Int32)) = (2 : Int32) from by decide]
    refine g_ineg D0 73 d_jdk_65m56_72 rfl ?_
    rw [show (-(2 : Int32)) = (-2 : Int32) from by decide]
    exact r_I D0 hret hlk d_jdk_65m56_73 ⟨by simp [own_bs1, hc174], rfl, rfl⟩ (by decide) (by decide)
  · refine g_ifY D0 46 d_jdk_65m56_34 (flt (clt_f hc174)).2.1 (by decide) (by decide) ?_
    refine g_lload D0 48 d_jdk_65m56_46 rfl rfl ?_
    refine g_lloadN D0 49 d_jdk_65m56_48 rfl rfl ?_
    refine g_lcmp D0 50 d_jdk_65m56_49 rfl ?_
    by_cases hc175 : q < u0
    · refine g_ifN D0 53 d_jdk_65m56_50 (tlt (cgt_t hc175)).2.2.2 rfl ?_
      refine g_iload D0 55 d_jdk_65m56_53 rfl rfl ?_
      refine g_iconst D0 56 (1 : Int32) d_jdk_65m56_55 rfl rfl ?_
      refine g_isub D0 57 d_jdk_65m56_56 rfl ?_
      rw [show ((0 : Int32) - (1 : Int32)) = (-1 : Int32) from by decide]
      refine g_istore D0 59 #[.val (.ref a), .val (.int (0 : Int32)), .val (.int (1 : Int32)), .val (.long q), .second, .val (.int (0 : Int32)), .val (.int (-1 : Int32)), .val (.int (0 : Int32)), .val (.long u0), .second] d_jdk_65m56_57 rfl rfl ?_
      refine g_goto D0 65 d_jdk_65m56_59 (by decide) (by decide) ?_
      refine g_goto D0 8 d_jdk_65m56_65 (by decide) (by decide) ?_
      refine g_iload D0 10 d_jdk_65m56_8 rfl rfl ?_
      refine g_iload D0 12 d_jdk_65m56_10 rfl rfl ?_
      refine g_icmpY D0 68 d_jdk_65m56_12 (by decide) (by decide) (by decide) ?_
      refine g_iload D0 70 d_jdk_65m56_68 rfl rfl ?_
      refine g_iconst D0 71 (1 : Int32) d_jdk_65m56_70 rfl rfl ?_
      refine g_iadd D0 72 d_jdk_65m56_71 rfl ?_
      rw [show ((0 : Int32) + (1 : Int32)) = (1 : Int32) from by decide]
      refine g_ineg D0 73 d_jdk_65m56_72 rfl ?_
      rw [show (-(1 : Int32)) = (-1 : Int32) from by decide]
      exact r_I D0 hret hlk d_jdk_65m56_73 ⟨by simp [own_bs1, hc174, hc175], rfl, rfl⟩ (by decide) (by decide)
    · refine g_ifY D0 62 d_jdk_65m56_50 (flt (cgt_f hc175)).2.2.2 (by decide) (by decide) ?_
      refine g_iload D0 64 d_jdk_65m56_62 rfl rfl ?_
      exact r_I D0 hret hlk d_jdk_65m56_64 ⟨by simp [own_bs1, hc174, hc175], rfl, rfl⟩ (by decide) (by decide)

set_option maxRecDepth 65536 in
set_option maxHeartbeats 40000000 in
theorem cB1_1 (l : Launch) (Z : State) (a0 : Array Value) (hw : ∀ d ∈ tables_1, d.before a0 Z = true) (ws : List Jvm.Cond) (a : Addr) (ka : ClassId) (u0 q : Int64) (h0 : Heap) (n0 : Nat) (Z0 : n0 ≤ h0.size) (V : Arv Z h0 a ka .long (1 : Int32) [(.long u0)] (.long (0 : Int64))) :
    Con l (⟨"java/util/Arrays", "binarySearch", "([JJ)I"⟩ : MethodName) jdk_65_method_54_code 3 (some .int) ws ({ frames := 1, cells := 0, slots := 0, locals := 21 } : Room) Z #[(.ref a), (.long q)] h0 (fun v h L => v = some (.int (own_bs1 u0 q)) ∧ L = [] ∧ h = h0) 0 0 := by
  refine enter (plainFor_of_name pn_1) ?_
  intro p e s m below meth c s₁ hnm hret hlk D0
  rw [ef_cB1_1 m a q]
  refine g_aloadN D0 1 d_jdk_65m54_0 rfl rfl rfl ?_
  refine g_iconst D0 2 (0 : Int32) d_jdk_65m54_1 rfl rfl ?_
  refine g_aloadN D0 3 d_jdk_65m54_2 rfl rfl rfl ?_
  refine g_alen D0 4 V d_jdk_65m54_3 rfl ?_
  refine g_lloadN D0 5 d_jdk_65m54_4 rfl rfl ?_
  refine g_callSp D0 8 (hw _ w_80) (hw _ w_81) (hw _ w_35) (hw _ w_82) (by decide) ((cB0_1 l Z a0 hw [] a ka u0 q h0 n0 Z0 V).back D0 0 (hw _ w_82) (hw _ w_35) (by decide) (by decide)) rfl [(.ref a), (.int (0 : Int32)), (.int (1 : Int32)), (.long q)] rfl (lenOf pd_7 rfl) rfl (Nat.le_of_eq rfl) (by decide) (by decide) d_jdk_65m54_5 rfl ?_
  intro v176 T176 q176 D176
  subst q176
  show Go p e below _ (T176.setTop (mkF m 8 #[.val (.ref a), .val (.long q), .second] [(.int (own_bs1 u0 q))]))
  exact r_I D176 hret hlk d_jdk_65m54_8 ⟨rfl, rfl, rfl⟩ (by decide) (by decide)

set_option maxRecDepth 65536 in
set_option maxHeartbeats 40000000 in
theorem cC_1 (l : Launch) (Z : State) (a0 : Array Value) (hw : ∀ d ∈ tables_1, d.before a0 Z = true) (ws : List Jvm.Cond) (b a a2 : Addr) (ka k2 : ClassId) (u0 x0 q : Int64) (h0 : Heap) (n0 : Nat) (Z0 : n0 ≤ h0.size) (F1 : Fld Z h0 b "com/example/twelfths/twelfths/grid/HourSet" "firsts" "[J" (.ref a)) (F2 : Fld Z h0 b "com/example/twelfths/twelfths/grid/HourSet" "ends" "[J" (.ref a2)) (V : Arv Z h0 a ka .long (1 : Int32) [(.long u0)] (.long (0 : Int64))) (V2 : Arv Z h0 a2 k2 .long (1 : Int32) [(.long x0)] (.long (0 : Int64))) :
    Con l (⟨"com/example/twelfths/twelfths/grid/HourSet", "contains", "(J)Z"⟩ : MethodName) prog_15_method_2_code 5 (some .boolean) ws ({ frames := 2, cells := 0, slots := 0, locals := 37 } : Room) Z #[(.ref b), (.long q)] h0 (fun v h L => own_B (own_P1 u0 x0 q) v ∧ L = [] ∧ h = h0) 0 0 := by
  refine enter (plainFor_of_name pn_3) ?_
  intro p e s m below meth c s₁ hnm hret hlk D0
  rw [ef_cC_1 m b q]
  refine g_aloadN D0 1 d_prog_15m2_0 rfl rfl rfl ?_
  refine g_getF D0 4 (hw _ w_64) Via.refl F1 d_prog_15m2_1 rfl ?_
  intro T177 D177
  refine g_lloadN D177 5 d_prog_15m2_4 rfl rfl ?_
  refine g_callSp D177 8 (hw _ w_77) (hw _ w_78) (hw _ w_35) (hw _ w_79) (by decide) ((cB1_1 l Z a0 hw [] a ka u0 q h0 n0 Z0 V).back D177 0 (hw _ w_79) (hw _ w_35) (by decide) (by decide)) rfl [(.ref a), (.long q)] rfl (lenOf pd_8 rfl) rfl (Nat.le_of_eq rfl) (by decide) (by decide) d_prog_15m2_5 rfl ?_
  intro v178 T178 q178 D178
  subst q178
  rcases own_bs1_or u0 q with ⟨hk, hA⟩ | ⟨hk, hA⟩ | ⟨hk, hA, hB⟩
  · rw [hk]
    show Go p e below _ (T178.setTop (mkF m 8 #[.val (.ref b), .val (.long q), .second, .unset, .unset] [(.int (-2 : Int32))]))
    refine g_istoreN D178 9 #[.val (.ref b), .val (.long q), .second, .val (.int (-2 : Int32)), .unset] d_prog_15m2_8 rfl rfl ?_
    refine g_iloadN D178 10 d_prog_15m2_9 rfl rfl ?_
    refine g_ifY D178 17 d_prog_15m2_10 (by decide) (by decide) (by decide) ?_
    refine g_iloadN D178 18 d_prog_15m2_17 rfl rfl ?_
    refine g_ineg D178 19 d_prog_15m2_18 rfl ?_
    rw [show (-(-2 : Int32)) = (2 : Int32) from by decide]
    refine g_iconst D178 20 (2 : Int32) d_prog_15m2_19 rfl rfl ?_
    refine g_isub D178 21 d_prog_15m2_20 rfl ?_
    rw [show ((2 : Int32) - (2 : Int32)) = (0 : Int32) from by decide]
    refine g_istore D178 23 #[.val (.ref b), .val (.long q), .second, .val (.int (-2 : Int32)), .val (.int (0 : Int32))] d_prog_15m2_21 rfl rfl ?_
    refine g_iload D178 25 d_prog_15m2_23 rfl rfl ?_
    refine g_ifN D178 28 d_prog_15m2_25 (by decide) rfl ?_
    refine g_lloadN D178 29 d_prog_15m2_28 rfl rfl ?_
    refine g_aloadN D178 30 d_prog_15m2_29 rfl rfl rfl ?_
    refine g_getF D178 33 (hw _ w_66) Via.refl F2 d_prog_15m2_30 rfl ?_
    intro T179 D179
    refine g_iload D179 35 d_prog_15m2_33 rfl rfl ?_
    refine g_laload D179 36 V2 ⟨by decide, by decide⟩ rfl d_prog_15m2_35 rfl ?_
    refine g_lcmp D179 37 d_prog_15m2_36 rfl ?_
    by_cases hq : q < x0
    · refine g_ifN D179 40 d_prog_15m2_37 (tlt (clt_t hq)).2.1 rfl ?_
      refine g_iconst D179 41 (1 : Int32) d_prog_15m2_40 rfl rfl ?_
      refine g_goto D179 45 d_prog_15m2_41 (by decide) (by decide) ?_
      exact r_N D179 hret (by simp) hlk d_prog_15m2_45 ⟨⟨_, rfl, Or.inl ⟨own_nar1, (own_l0 hA hq)⟩⟩, rfl, rfl⟩ (by decide) (by decide)
    · refine g_ifY D179 44 d_prog_15m2_37 (flt (clt_f hq)).2.1 (by decide) (by decide) ?_
      refine g_iconst D179 45 (0 : Int32) d_prog_15m2_44 rfl rfl ?_
      exact r_N D179 hret (by simp) hlk d_prog_15m2_45 ⟨⟨_, rfl, Or.inr ⟨own_nar0, (own_l1 hA hq)⟩⟩, rfl, rfl⟩ (by decide) (by decide)
  · rw [hk]
    show Go p e below _ (T178.setTop (mkF m 8 #[.val (.ref b), .val (.long q), .second, .unset, .unset] [(.int (-1 : Int32))]))
    refine g_istoreN D178 9 #[.val (.ref b), .val (.long q), .second, .val (.int (-1 : Int32)), .unset] d_prog_15m2_8 rfl rfl ?_
    refine g_iloadN D178 10 d_prog_15m2_9 rfl rfl ?_
    refine g_ifY D178 17 d_prog_15m2_10 (by decide) (by decide) (by decide) ?_
    refine g_iloadN D178 18 d_prog_15m2_17 rfl rfl ?_
    refine g_ineg D178 19 d_prog_15m2_18 rfl ?_
    rw [show (-(-1 : Int32)) = (1 : Int32) from by decide]
    refine g_iconst D178 20 (2 : Int32) d_prog_15m2_19 rfl rfl ?_
    refine g_isub D178 21 d_prog_15m2_20 rfl ?_
    rw [show ((1 : Int32) - (2 : Int32)) = (-1 : Int32) from by decide]
    refine g_istore D178 23 #[.val (.ref b), .val (.long q), .second, .val (.int (-1 : Int32)), .val (.int (-1 : Int32))] d_prog_15m2_21 rfl rfl ?_
    refine g_iload D178 25 d_prog_15m2_23 rfl rfl ?_
    refine g_ifY D178 44 d_prog_15m2_25 (by decide) (by decide) (by decide) ?_
    refine g_iconst D178 45 (0 : Int32) d_prog_15m2_44 rfl rfl ?_
    exact r_N D178 hret (by simp) hlk d_prog_15m2_45 ⟨⟨_, rfl, Or.inr ⟨own_nar0, (own_l2 hA)⟩⟩, rfl, rfl⟩ (by decide) (by decide)
  · rw [hk]
    show Go p e below _ (T178.setTop (mkF m 8 #[.val (.ref b), .val (.long q), .second, .unset, .unset] [(.int (0 : Int32))]))
    refine g_istoreN D178 9 #[.val (.ref b), .val (.long q), .second, .val (.int (0 : Int32)), .unset] d_prog_15m2_8 rfl rfl ?_
    refine g_iloadN D178 10 d_prog_15m2_9 rfl rfl ?_
    refine g_ifN D178 13 d_prog_15m2_10 (by decide) rfl ?_
    refine g_iloadN D178 14 d_prog_15m2_13 rfl rfl ?_
    refine g_goto D178 21 d_prog_15m2_14 (by decide) (by decide) ?_
    refine g_istore D178 23 #[.val (.ref b), .val (.long q), .second, .val (.int (0 : Int32)), .val (.int (0 : Int32))] d_prog_15m2_21 rfl rfl ?_
    refine g_iload D178 25 d_prog_15m2_23 rfl rfl ?_
    refine g_ifN D178 28 d_prog_15m2_25 (by decide) rfl ?_
    refine g_lloadN D178 29 d_prog_15m2_28 rfl rfl ?_
    refine g_aloadN D178 30 d_prog_15m2_29 rfl rfl rfl ?_
    refine g_getF D178 33 (hw _ w_66) Via.refl F2 d_prog_15m2_30 rfl ?_
    intro T180 D180
    refine g_iload D180 35 d_prog_15m2_33 rfl rfl ?_
    refine g_laload D180 36 V2 ⟨by decide, by decide⟩ rfl d_prog_15m2_35 rfl ?_
    refine g_lcmp D180 37 d_prog_15m2_36 rfl ?_
    by_cases hq : q < x0
    · refine g_ifN D180 40 d_prog_15m2_37 (tlt (clt_t hq)).2.1 rfl ?_
      refine g_iconst D180 41 (1 : Int32) d_prog_15m2_40 rfl rfl ?_
      refine g_goto D180 45 d_prog_15m2_41 (by decide) (by decide) ?_
      exact r_N D180 hret (by simp) hlk d_prog_15m2_45 ⟨⟨_, rfl, Or.inl ⟨own_nar1, (own_l3 hA hB hq)⟩⟩, rfl, rfl⟩ (by decide) (by decide)
    · refine g_ifY D180 44 d_prog_15m2_37 (flt (clt_f hq)).2.1 (by decide) (by decide) ?_
      refine g_iconst D180 45 (0 : Int32) d_prog_15m2_44 rfl rfl ?_
      exact r_N D180 hret (by simp) hlk d_prog_15m2_45 ⟨⟨_, rfl, Or.inr ⟨own_nar0, (own_l4 hA hB hq)⟩⟩, rfl, rfl⟩ (by decide) (by decide)

set_option maxRecDepth 65536 in
set_option maxHeartbeats 40000000 in
theorem cB0_2 (l : Launch) (Z : State) (a0 : Array Value) (hw : ∀ d ∈ tables_1, d.before a0 Z = true) (ws : List Jvm.Cond) (a : Addr) (ka : ClassId) (u0 u1 q : Int64) (h0 : Heap) (n0 : Nat) (Z0 : n0 ≤ h0.size) (V : Arv Z h0 a ka .long (2 : Int32) [(.long u0), (.long u1)] (.long (0 : Int64))) :
    Con l (⟨"java/util/Arrays", "binarySearch0", "([JIIJ)I"⟩ : MethodName) jdk_65_method_56_code 10 (some .int) ws ({ frames := 0, cells := 0, slots := 0, locals := 0 } : Room) Z #[(.ref a), (.int (0 : Int32)), (.int (2 : Int32)), (.long q)] h0 (fun v h L => v = some (.int (own_bs2 u0 u1 q)) ∧ L = [] ∧ h = h0) 0 0 := by
  refine enter (plainFor_of_name pn_1) ?_
  intro p e s m below meth c s₁ hnm hret hlk D0
  rw [ef_cB0_2 m a q]
  refine g_iloadN D0 1 d_jdk_65m56_0 rfl rfl ?_
  refine g_istore D0 3 #[.val (.ref a), .val (.int (0 : Int32)), .val (.int (2 : Int32)), .val (.long q), .second, .val (.int (0 : Int32)), .unset, .unset, .unset, .unset] d_jdk_65m56_1 rfl rfl ?_
  refine g_iloadN D0 4 d_jdk_65m56_3 rfl rfl ?_
  refine g_iconst D0 5 (1 : Int32) d_jdk_65m56_4 rfl rfl ?_
  refine g_isub D0 6 d_jdk_65m56_5 rfl ?_
  rw [show ((2 : Int32) - (1 : Int32)) = (1 : Int32) from by decide]
  refine g_istore D0 8 #[.val (.ref a), .val (.int (0 : Int32)), .val (.int (2 : Int32)), .val (.long q), .second, .val (.int (0 : Int32)), .val (.int (1 : Int32)), .unset, .unset, .unset] d_jdk_65m56_6 rfl rfl ?_
  refine g_iload D0 10 d_jdk_65m56_8 rfl rfl ?_
  refine g_iload D0 12 d_jdk_65m56_10 rfl rfl ?_
  refine g_icmpN D0 15 d_jdk_65m56_12 (by decide) rfl ?_
  refine g_iload D0 17 d_jdk_65m56_15 rfl rfl ?_
  refine g_iload D0 19 d_jdk_65m56_17 rfl rfl ?_
  refine g_iadd D0 20 d_jdk_65m56_19 rfl ?_
  rw [show ((0 : Int32) + (1 : Int32)) = (1 : Int32) from by decide]
  refine g_iconst D0 21 (1 : Int32) d_jdk_65m56_20 rfl rfl ?_
  refine g_iushr D0 22 d_jdk_65m56_21 rfl ?_
  rw [show (XT.ushr (1 : Int32) (1 : Int32)) = (0 : Int32) from by decide]
  refine g_istore D0 24 #[.val (.ref a), .val (.int (0 : Int32)), .val (.int (2 : Int32)), .val (.long q), .second, .val (.int (0 : Int32)), .val (.int (1 : Int32)), .val (.int (0 : Int32)), .unset, .unset] d_jdk_65m56_22 rfl rfl ?_
  refine g_aloadN D0 25 d_jdk_65m56_24 rfl rfl rfl ?_
  refine g_iload D0 27 d_jdk_65m56_25 rfl rfl ?_
  refine g_laload D0 28 V ⟨by decide, by decide⟩ rfl d_jdk_65m56_27 rfl ?_
  refine g_lstore D0 30 #[.val (.ref a), .val (.int (0 : Int32)), .val (.int (2 : Int32)), .val (.long q), .second, .val (.int (0 : Int32)), .val (.int (1 : Int32)), .val (.int (0 : Int32)), .val (.long u0), .second] d_jdk_65m56_28 rfl rfl ?_
  refine g_lload D0 32 d_jdk_65m56_30 rfl rfl ?_
  refine g_lloadN D0 33 d_jdk_65m56_32 rfl rfl ?_
  refine g_lcmp D0 34 d_jdk_65m56_33 rfl ?_
  by_cases hc181 : u0 < q
  · refine g_ifN D0 37 d_jdk_65m56_34 (tlt (clt_t hc181)).2.1 rfl ?_
    refine g_iload D0 39 d_jdk_65m56_37 rfl rfl ?_
    refine g_iconst D0 40 (1 : Int32) d_jdk_65m56_39 rfl rfl ?_
    refine g_iadd D0 41 d_jdk_65m56_40 rfl ?_
    rw [show ((0 : Int32) + (1 : Int32)) = (1 : Int32) from by decide]
    refine g_istore D0 43 #[.val (.ref a), .val (.int (0 : Int32)), .val (.int (2 : Int32)), .val (.long q), .second, .val (.int (1 : Int32)), .val (.int (1 : Int32)), .val (.int (0 : Int32)), .val (.long u0), .second] d_jdk_65m56_41 rfl rfl ?_
    refine g_goto D0 65 d_jdk_65m56_43 (by decide) (by decide) ?_
    refine g_goto D0 8 d_jdk_65m56_65 (by decide) (by decide) ?_
    refine g_iload D0 10 d_jdk_65m56_8 rfl rfl ?_
    refine g_iload D0 12 d_jdk_65m56_10 rfl rfl ?_
    refine g_icmpN D0 15 d_jdk_65m56_12 (by decide) rfl ?_
    refine g_iload D0 17 d_jdk_65m56_15 rfl rfl ?_
    refine g_iload D0 19 d_jdk_65m56_17 rfl rfl ?_
    refine g_iadd D0 20 d_jdk_65m56_19 rfl ?_
    rw [show ((1 : Int32) + (1 : Int32)) = (2 : Int32) from by decide]
    refine g_iconst D0 21 (1 : Int32) d_jdk_65m56_20 rfl rfl ?_
    refine g_iushr D0 22 d_jdk_65m56_21 rfl ?_
    rw [show (XT.ushr (2 : Int32) (1 : Int32)) = (1 : Int32) from by decide]
    refine g_istore D0 24 #[.val (.ref a), .val (.int (0 : Int32)), .val (.int (2 : Int32)), .val (.long q), .second, .val (.int (1 : Int32)), .val (.int (1 : Int32)), .val (.int (1 : Int32)), .val (.long u0), .second] d_jdk_65m56_22 rfl rfl ?_
    refine g_aloadN D0 25 d_jdk_65m56_24 rfl rfl rfl ?_
    refine g_iload D0 27 d_jdk_65m56_25 rfl rfl ?_
    refine g_laload D0 28 V ⟨by decide, by decide⟩ rfl d_jdk_65m56_27 rfl ?_
    refine g_lstore D0 30 #[.val (.ref a), .val (.int (0 : Int32)), .val (.int (2 : Int32)), .val (.long q), .second, .val (.int (1 : Int32)), .val (.int (1 : Int32)), .val (.int (1 : Int32)), .val (.long u1), .second] d_jdk_65m56_28 rfl rfl ?_
    refine g_lload D0 32 d_jdk_65m56_30 rfl rfl ?_
    refine g_lloadN D0 33 d_jdk_65m56_32 rfl rfl ?_
    refine g_lcmp D0 34 d_jdk_65m56_33 rfl ?_
    by_cases hc182 : u1 < q
    · refine g_ifN D0 37 d_jdk_65m56_34 (tlt (clt_t hc182)).2.1 rfl ?_
      refine g_iload D0 39 d_jdk_65m56_37 rfl rfl ?_
      refine g_iconst D0 40 (1 : Int32) d_jdk_65m56_39 rfl rfl ?_
      refine g_iadd D0 41 d_jdk_65m56_40 rfl ?_
      rw [show ((1 : Int32) + (1 : Int32)) = (2 : Int32) from by decide]
      refine g_istore D0 43 #[.val (.ref a), .val (.int (0 : Int32)), .val (.int (2 : Int32)), .val (.long q), .second, .val (.int (2 : Int32)), .val (.int (1 : Int32)), .val (.int (1 : Int32)), .val (.long u1), .second] d_jdk_65m56_41 rfl rfl ?_
      refine g_goto D0 65 d_jdk_65m56_43 (by decide) (by decide) ?_
      refine g_goto D0 8 d_jdk_65m56_65 (by decide) (by decide) ?_
      refine g_iload D0 10 d_jdk_65m56_8 rfl rfl ?_
      refine g_iload D0 12 d_jdk_65m56_10 rfl rfl ?_
      refine g_icmpY D0 68 d_jdk_65m56_12 (by decide) (by decide) (by decide) ?_
      refine g_iload D0 70 d_jdk_65m56_68 rfl rfl ?_
      refine g_iconst D0 71 (1 : Int32) d_jdk_65m56_70 rfl rfl ?_
      refine g_iadd D0 72 d_jdk_65m56_71 rfl ?_
      rw [show ((2 : Int32) + (1 : Int32)) = (3 : Int32) from by decide]
      refine g_ineg D0 73 d_jdk_65m56_72 rfl ?_
      rw [show (-(3 : Int32)) = (-3 : Int32) from by decide]
      exact r_I D0 hret hlk d_jdk_65m56_73 ⟨by simp [own_bs2, hc181, hc182], rfl, rfl⟩ (by decide) (by decide)
    · refine g_ifY D0 46 d_jdk_65m56_34 (flt (clt_f hc182)).2.1 (by decide) (by decide) ?_
      refine g_lload D0 48 d_jdk_65m56_46 rfl rfl ?_
      refine g_lloadN D0 49 d_jdk_65m56_48 rfl rfl ?_
      refine g_lcmp D0 50 d_jdk_65m56_49 rfl ?_
      by_cases hc183 : q < u1
      · refine g_ifN D0 53 d_jdk_65m56_50 (tlt (cgt_t hc183)).2.2.2 rfl ?_
        refine g_iload D0 55 d_jdk_65m56_53 rfl rfl ?_
        refine g_iconst D0 56 (1 : Int32) d_jdk_65m56_55 rfl rfl ?_
        refine g_isub D0 57 d_jdk_65m56_56 rfl ?_
        rw [show ((1 : Int32) - (1 : Int32)) = (0 : Int32) from by decide]
        refine g_istore D0 59 #[.val (.ref a), .val (.int (0 : Int32)), .val (.int (2 : Int32)), .val (.long q), .second, .val (.int (1 : Int32)), .val (.int (0 : Int32)), .val (.int (1 : Int32)), .val (.long u1), .second] d_jdk_65m56_57 rfl rfl ?_
        refine g_goto D0 65 d_jdk_65m56_59 (by decide) (by decide) ?_
        refine g_goto D0 8 d_jdk_65m56_65 (by decide) (by decide) ?_
        refine g_iload D0 10 d_jdk_65m56_8 rfl rfl ?_
        refine g_iload D0 12 d_jdk_65m56_10 rfl rfl ?_
        refine g_icmpY D0 68 d_jdk_65m56_12 (by decide) (by decide) (by decide) ?_
        refine g_iload D0 70 d_jdk_65m56_68 rfl rfl ?_
        refine g_iconst D0 71 (1 : Int32) d_jdk_65m56_70 rfl rfl ?_
        refine g_iadd D0 72 d_jdk_65m56_71 rfl ?_
        rw [show ((1 : Int32) + (1 : Int32)) = (2 : Int32) from by decide]
        refine g_ineg D0 73 d_jdk_65m56_72 rfl ?_
        rw [show (-(2 : Int32)) = (-2 : Int32) from by decide]
        exact r_I D0 hret hlk d_jdk_65m56_73 ⟨by simp [own_bs2, hc181, hc182, hc183], rfl, rfl⟩ (by decide) (by decide)
      · refine g_ifY D0 62 d_jdk_65m56_50 (flt (cgt_f hc183)).2.2.2 (by decide) (by decide) ?_
        refine g_iload D0 64 d_jdk_65m56_62 rfl rfl ?_
        exact r_I D0 hret hlk d_jdk_65m56_64 ⟨by simp [own_bs2, hc181, hc182, hc183], rfl, rfl⟩ (by decide) (by decide)
  · refine g_ifY D0 46 d_jdk_65m56_34 (flt (clt_f hc181)).2.1 (by decide) (by decide) ?_
    refine g_lload D0 48 d_jdk_65m56_46 rfl rfl ?_
    refine g_lloadN D0 49 d_jdk_65m56_48 rfl rfl ?_
    refine g_lcmp D0 50 d_jdk_65m56_49 rfl ?_
    by_cases hc184 : q < u0
    · refine g_ifN D0 53 d_jdk_65m56_50 (tlt (cgt_t hc184)).2.2.2 rfl ?_
      refine g_iload D0 55 d_jdk_65m56_53 rfl rfl ?_
      refine g_iconst D0 56 (1 : Int32) d_jdk_65m56_55 rfl rfl ?_
      refine g_isub D0 57 d_jdk_65m56_56 rfl ?_
      rw [show ((0 : Int32) - (1 : Int32)) = (-1 : Int32) from by decide]
      refine g_istore D0 59 #[.val (.ref a), .val (.int (0 : Int32)), .val (.int (2 : Int32)), .val (.long q), .second, .val (.int (0 : Int32)), .val (.int (-1 : Int32)), .val (.int (0 : Int32)), .val (.long u0), .second] d_jdk_65m56_57 rfl rfl ?_
      refine g_goto D0 65 d_jdk_65m56_59 (by decide) (by decide) ?_
      refine g_goto D0 8 d_jdk_65m56_65 (by decide) (by decide) ?_
      refine g_iload D0 10 d_jdk_65m56_8 rfl rfl ?_
      refine g_iload D0 12 d_jdk_65m56_10 rfl rfl ?_
      refine g_icmpY D0 68 d_jdk_65m56_12 (by decide) (by decide) (by decide) ?_
      refine g_iload D0 70 d_jdk_65m56_68 rfl rfl ?_
      refine g_iconst D0 71 (1 : Int32) d_jdk_65m56_70 rfl rfl ?_
      refine g_iadd D0 72 d_jdk_65m56_71 rfl ?_
      rw [show ((0 : Int32) + (1 : Int32)) = (1 : Int32) from by decide]
      refine g_ineg D0 73 d_jdk_65m56_72 rfl ?_
      rw [show (-(1 : Int32)) = (-1 : Int32) from by decide]
      exact r_I D0 hret hlk d_jdk_65m56_73 ⟨by simp [own_bs2, hc181, hc184], rfl, rfl⟩ (by decide) (by decide)
    · refine g_ifY D0 62 d_jdk_65m56_50 (flt (cgt_f hc184)).2.2.2 (by decide) (by decide) ?_
      refine g_iload D0 64 d_jdk_65m56_62 rfl rfl ?_
      exact r_I D0 hret hlk d_jdk_65m56_64 ⟨by simp [own_bs2, hc181, hc184], rfl, rfl⟩ (by decide) (by decide)

set_option maxRecDepth 65536 in
set_option maxHeartbeats 40000000 in
theorem cB1_2 (l : Launch) (Z : State) (a0 : Array Value) (hw : ∀ d ∈ tables_1, d.before a0 Z = true) (ws : List Jvm.Cond) (a : Addr) (ka : ClassId) (u0 u1 q : Int64) (h0 : Heap) (n0 : Nat) (Z0 : n0 ≤ h0.size) (V : Arv Z h0 a ka .long (2 : Int32) [(.long u0), (.long u1)] (.long (0 : Int64))) :
    Con l (⟨"java/util/Arrays", "binarySearch", "([JJ)I"⟩ : MethodName) jdk_65_method_54_code 3 (some .int) ws ({ frames := 1, cells := 0, slots := 0, locals := 21 } : Room) Z #[(.ref a), (.long q)] h0 (fun v h L => v = some (.int (own_bs2 u0 u1 q)) ∧ L = [] ∧ h = h0) 0 0 := by
  refine enter (plainFor_of_name pn_1) ?_
  intro p e s m below meth c s₁ hnm hret hlk D0
  rw [ef_cB1_2 m a q]
  refine g_aloadN D0 1 d_jdk_65m54_0 rfl rfl rfl ?_
  refine g_iconst D0 2 (0 : Int32) d_jdk_65m54_1 rfl rfl ?_
  refine g_aloadN D0 3 d_jdk_65m54_2 rfl rfl rfl ?_
  refine g_alen D0 4 V d_jdk_65m54_3 rfl ?_
  refine g_lloadN D0 5 d_jdk_65m54_4 rfl rfl ?_
  refine g_callSp D0 8 (hw _ w_80) (hw _ w_81) (hw _ w_35) (hw _ w_82) (by decide) ((cB0_2 l Z a0 hw [] a ka u0 u1 q h0 n0 Z0 V).back D0 0 (hw _ w_82) (hw _ w_35) (by decide) (by decide)) rfl [(.ref a), (.int (0 : Int32)), (.int (2 : Int32)), (.long q)] rfl (lenOf pd_7 rfl) rfl (Nat.le_of_eq rfl) (by decide) (by decide) d_jdk_65m54_5 rfl ?_
  intro v185 T185 q185 D185
  subst q185
  show Go p e below _ (T185.setTop (mkF m 8 #[.val (.ref a), .val (.long q), .second] [(.int (own_bs2 u0 u1 q))]))
  exact r_I D185 hret hlk d_jdk_65m54_8 ⟨rfl, rfl, rfl⟩ (by decide) (by decide)

set_option maxRecDepth 65536 in
set_option maxHeartbeats 40000000 in
theorem cC_2 (l : Launch) (Z : State) (a0 : Array Value) (hw : ∀ d ∈ tables_1, d.before a0 Z = true) (ws : List Jvm.Cond) (b a a2 : Addr) (ka k2 : ClassId) (u0 u1 x0 x1 q : Int64) (h0 : Heap) (n0 : Nat) (Z0 : n0 ≤ h0.size) (F1 : Fld Z h0 b "com/example/twelfths/twelfths/grid/HourSet" "firsts" "[J" (.ref a)) (F2 : Fld Z h0 b "com/example/twelfths/twelfths/grid/HourSet" "ends" "[J" (.ref a2)) (V : Arv Z h0 a ka .long (2 : Int32) [(.long u0), (.long u1)] (.long (0 : Int64))) (V2 : Arv Z h0 a2 k2 .long (2 : Int32) [(.long x0), (.long x1)] (.long (0 : Int64))) :
    Con l (⟨"com/example/twelfths/twelfths/grid/HourSet", "contains", "(J)Z"⟩ : MethodName) prog_15_method_2_code 5 (some .boolean) ws ({ frames := 2, cells := 0, slots := 0, locals := 37 } : Room) Z #[(.ref b), (.long q)] h0 (fun v h L => own_B (own_P2 u0 u1 x0 x1 q) v ∧ L = [] ∧ h = h0) 0 0 := by
  refine enter (plainFor_of_name pn_3) ?_
  intro p e s m below meth c s₁ hnm hret hlk D0
  rw [ef_cC_2 m b q]
  refine g_aloadN D0 1 d_prog_15m2_0 rfl rfl rfl ?_
  refine g_getF D0 4 (hw _ w_64) Via.refl F1 d_prog_15m2_1 rfl ?_
  intro T186 D186
  refine g_lloadN D186 5 d_prog_15m2_4 rfl rfl ?_
  refine g_callSp D186 8 (hw _ w_77) (hw _ w_78) (hw _ w_35) (hw _ w_79) (by decide) ((cB1_2 l Z a0 hw [] a ka u0 u1 q h0 n0 Z0 V).back D186 0 (hw _ w_79) (hw _ w_35) (by decide) (by decide)) rfl [(.ref a), (.long q)] rfl (lenOf pd_8 rfl) rfl (Nat.le_of_eq rfl) (by decide) (by decide) d_prog_15m2_5 rfl ?_
  intro v187 T187 q187 D187
  subst q187
  rcases own_bs2_or u0 u1 q with ⟨hk, hA, hB⟩ | ⟨hk, hA, hB⟩ | ⟨hk, hA, hB, hC⟩ | ⟨hk, hA⟩ | ⟨hk, hA, hB⟩
  · rw [hk]
    show Go p e below _ (T187.setTop (mkF m 8 #[.val (.ref b), .val (.long q), .second, .unset, .unset] [(.int (-3 : Int32))]))
    refine g_istoreN D187 9 #[.val (.ref b), .val (.long q), .second, .val (.int (-3 : Int32)), .unset] d_prog_15m2_8 rfl rfl ?_
    refine g_iloadN D187 10 d_prog_15m2_9 rfl rfl ?_
    refine g_ifY D187 17 d_prog_15m2_10 (by decide) (by decide) (by decide) ?_
    refine g_iloadN D187 18 d_prog_15m2_17 rfl rfl ?_
    refine g_ineg D187 19 d_prog_15m2_18 rfl ?_
    rw [show (-(-3 : Int32)) = (3 : Int32) from by decide]
    refine g_iconst D187 20 (2 : Int32) d_prog_15m2_19 rfl rfl ?_
    refine g_isub D187 21 d_prog_15m2_20 rfl ?_
    rw [show ((3 : Int32) - (2 : Int32)) = (1 : Int32) from by decide]
    refine g_istore D187 23 #[.val (.ref b), .val (.long q), .second, .val (.int (-3 : Int32)), .val (.int (1 : Int32))] d_prog_15m2_21 rfl rfl ?_
    refine g_iload D187 25 d_prog_15m2_23 rfl rfl ?_
    refine g_ifN D187 28 d_prog_15m2_25 (by decide) rfl ?_
    refine g_lloadN D187 29 d_prog_15m2_28 rfl rfl ?_
    refine g_aloadN D187 30 d_prog_15m2_29 rfl rfl rfl ?_
    refine g_getF D187 33 (hw _ w_66) Via.refl F2 d_prog_15m2_30 rfl ?_
    intro T188 D188
    refine g_iload D188 35 d_prog_15m2_33 rfl rfl ?_
    refine g_laload D188 36 V2 ⟨by decide, by decide⟩ rfl d_prog_15m2_35 rfl ?_
    refine g_lcmp D188 37 d_prog_15m2_36 rfl ?_
    by_cases hq : q < x1
    · refine g_ifN D188 40 d_prog_15m2_37 (tlt (clt_t hq)).2.1 rfl ?_
      refine g_iconst D188 41 (1 : Int32) d_prog_15m2_40 rfl rfl ?_
      refine g_goto D188 45 d_prog_15m2_41 (by decide) (by decide) ?_
      exact r_N D188 hret (by simp) hlk d_prog_15m2_45 ⟨⟨_, rfl, Or.inl ⟨own_nar1, (own_l5 hA hB hq)⟩⟩, rfl, rfl⟩ (by decide) (by decide)
    · refine g_ifY D188 44 d_prog_15m2_37 (flt (clt_f hq)).2.1 (by decide) (by decide) ?_
      refine g_iconst D188 45 (0 : Int32) d_prog_15m2_44 rfl rfl ?_
      exact r_N D188 hret (by simp) hlk d_prog_15m2_45 ⟨⟨_, rfl, Or.inr ⟨own_nar0, (own_l6 hA hB hq)⟩⟩, rfl, rfl⟩ (by decide) (by decide)
  · rw [hk]
    show Go p e below _ (T187.setTop (mkF m 8 #[.val (.ref b), .val (.long q), .second, .unset, .unset] [(.int (-2 : Int32))]))
    refine g_istoreN D187 9 #[.val (.ref b), .val (.long q), .second, .val (.int (-2 : Int32)), .unset] d_prog_15m2_8 rfl rfl ?_
    refine g_iloadN D187 10 d_prog_15m2_9 rfl rfl ?_
    refine g_ifY D187 17 d_prog_15m2_10 (by decide) (by decide) (by decide) ?_
    refine g_iloadN D187 18 d_prog_15m2_17 rfl rfl ?_
    refine g_ineg D187 19 d_prog_15m2_18 rfl ?_
    rw [show (-(-2 : Int32)) = (2 : Int32) from by decide]
    refine g_iconst D187 20 (2 : Int32) d_prog_15m2_19 rfl rfl ?_
    refine g_isub D187 21 d_prog_15m2_20 rfl ?_
    rw [show ((2 : Int32) - (2 : Int32)) = (0 : Int32) from by decide]
    refine g_istore D187 23 #[.val (.ref b), .val (.long q), .second, .val (.int (-2 : Int32)), .val (.int (0 : Int32))] d_prog_15m2_21 rfl rfl ?_
    refine g_iload D187 25 d_prog_15m2_23 rfl rfl ?_
    refine g_ifN D187 28 d_prog_15m2_25 (by decide) rfl ?_
    refine g_lloadN D187 29 d_prog_15m2_28 rfl rfl ?_
    refine g_aloadN D187 30 d_prog_15m2_29 rfl rfl rfl ?_
    refine g_getF D187 33 (hw _ w_66) Via.refl F2 d_prog_15m2_30 rfl ?_
    intro T189 D189
    refine g_iload D189 35 d_prog_15m2_33 rfl rfl ?_
    refine g_laload D189 36 V2 ⟨by decide, by decide⟩ rfl d_prog_15m2_35 rfl ?_
    refine g_lcmp D189 37 d_prog_15m2_36 rfl ?_
    by_cases hq : q < x0
    · refine g_ifN D189 40 d_prog_15m2_37 (tlt (clt_t hq)).2.1 rfl ?_
      refine g_iconst D189 41 (1 : Int32) d_prog_15m2_40 rfl rfl ?_
      refine g_goto D189 45 d_prog_15m2_41 (by decide) (by decide) ?_
      exact r_N D189 hret (by simp) hlk d_prog_15m2_45 ⟨⟨_, rfl, Or.inl ⟨own_nar1, (own_l7 hA hB hq)⟩⟩, rfl, rfl⟩ (by decide) (by decide)
    · refine g_ifY D189 44 d_prog_15m2_37 (flt (clt_f hq)).2.1 (by decide) (by decide) ?_
      refine g_iconst D189 45 (0 : Int32) d_prog_15m2_44 rfl rfl ?_
      exact r_N D189 hret (by simp) hlk d_prog_15m2_45 ⟨⟨_, rfl, Or.inr ⟨own_nar0, (own_l8 hA hB hq)⟩⟩, rfl, rfl⟩ (by decide) (by decide)
  · rw [hk]
    show Go p e below _ (T187.setTop (mkF m 8 #[.val (.ref b), .val (.long q), .second, .unset, .unset] [(.int (1 : Int32))]))
    refine g_istoreN D187 9 #[.val (.ref b), .val (.long q), .second, .val (.int (1 : Int32)), .unset] d_prog_15m2_8 rfl rfl ?_
    refine g_iloadN D187 10 d_prog_15m2_9 rfl rfl ?_
    refine g_ifN D187 13 d_prog_15m2_10 (by decide) rfl ?_
    refine g_iloadN D187 14 d_prog_15m2_13 rfl rfl ?_
    refine g_goto D187 21 d_prog_15m2_14 (by decide) (by decide) ?_
    refine g_istore D187 23 #[.val (.ref b), .val (.long q), .second, .val (.int (1 : Int32)), .val (.int (1 : Int32))] d_prog_15m2_21 rfl rfl ?_
    refine g_iload D187 25 d_prog_15m2_23 rfl rfl ?_
    refine g_ifN D187 28 d_prog_15m2_25 (by decide) rfl ?_
    refine g_lloadN D187 29 d_prog_15m2_28 rfl rfl ?_
    refine g_aloadN D187 30 d_prog_15m2_29 rfl rfl rfl ?_
    refine g_getF D187 33 (hw _ w_66) Via.refl F2 d_prog_15m2_30 rfl ?_
    intro T190 D190
    refine g_iload D190 35 d_prog_15m2_33 rfl rfl ?_
    refine g_laload D190 36 V2 ⟨by decide, by decide⟩ rfl d_prog_15m2_35 rfl ?_
    refine g_lcmp D190 37 d_prog_15m2_36 rfl ?_
    by_cases hq : q < x1
    · refine g_ifN D190 40 d_prog_15m2_37 (tlt (clt_t hq)).2.1 rfl ?_
      refine g_iconst D190 41 (1 : Int32) d_prog_15m2_40 rfl rfl ?_
      refine g_goto D190 45 d_prog_15m2_41 (by decide) (by decide) ?_
      exact r_N D190 hret (by simp) hlk d_prog_15m2_45 ⟨⟨_, rfl, Or.inl ⟨own_nar1, (own_l9 hA hB hC hq)⟩⟩, rfl, rfl⟩ (by decide) (by decide)
    · refine g_ifY D190 44 d_prog_15m2_37 (flt (clt_f hq)).2.1 (by decide) (by decide) ?_
      refine g_iconst D190 45 (0 : Int32) d_prog_15m2_44 rfl rfl ?_
      exact r_N D190 hret (by simp) hlk d_prog_15m2_45 ⟨⟨_, rfl, Or.inr ⟨own_nar0, (own_l10 hA hB hC hq)⟩⟩, rfl, rfl⟩ (by decide) (by decide)
  · rw [hk]
    show Go p e below _ (T187.setTop (mkF m 8 #[.val (.ref b), .val (.long q), .second, .unset, .unset] [(.int (-1 : Int32))]))
    refine g_istoreN D187 9 #[.val (.ref b), .val (.long q), .second, .val (.int (-1 : Int32)), .unset] d_prog_15m2_8 rfl rfl ?_
    refine g_iloadN D187 10 d_prog_15m2_9 rfl rfl ?_
    refine g_ifY D187 17 d_prog_15m2_10 (by decide) (by decide) (by decide) ?_
    refine g_iloadN D187 18 d_prog_15m2_17 rfl rfl ?_
    refine g_ineg D187 19 d_prog_15m2_18 rfl ?_
    rw [show (-(-1 : Int32)) = (1 : Int32) from by decide]
    refine g_iconst D187 20 (2 : Int32) d_prog_15m2_19 rfl rfl ?_
    refine g_isub D187 21 d_prog_15m2_20 rfl ?_
    rw [show ((1 : Int32) - (2 : Int32)) = (-1 : Int32) from by decide]
    refine g_istore D187 23 #[.val (.ref b), .val (.long q), .second, .val (.int (-1 : Int32)), .val (.int (-1 : Int32))] d_prog_15m2_21 rfl rfl ?_
    refine g_iload D187 25 d_prog_15m2_23 rfl rfl ?_
    refine g_ifY D187 44 d_prog_15m2_25 (by decide) (by decide) (by decide) ?_
    refine g_iconst D187 45 (0 : Int32) d_prog_15m2_44 rfl rfl ?_
    exact r_N D187 hret (by simp) hlk d_prog_15m2_45 ⟨⟨_, rfl, Or.inr ⟨own_nar0, (own_l11 hA)⟩⟩, rfl, rfl⟩ (by decide) (by decide)
  · rw [hk]
    show Go p e below _ (T187.setTop (mkF m 8 #[.val (.ref b), .val (.long q), .second, .unset, .unset] [(.int (0 : Int32))]))
    refine g_istoreN D187 9 #[.val (.ref b), .val (.long q), .second, .val (.int (0 : Int32)), .unset] d_prog_15m2_8 rfl rfl ?_
    refine g_iloadN D187 10 d_prog_15m2_9 rfl rfl ?_
    refine g_ifN D187 13 d_prog_15m2_10 (by decide) rfl ?_
    refine g_iloadN D187 14 d_prog_15m2_13 rfl rfl ?_
    refine g_goto D187 21 d_prog_15m2_14 (by decide) (by decide) ?_
    refine g_istore D187 23 #[.val (.ref b), .val (.long q), .second, .val (.int (0 : Int32)), .val (.int (0 : Int32))] d_prog_15m2_21 rfl rfl ?_
    refine g_iload D187 25 d_prog_15m2_23 rfl rfl ?_
    refine g_ifN D187 28 d_prog_15m2_25 (by decide) rfl ?_
    refine g_lloadN D187 29 d_prog_15m2_28 rfl rfl ?_
    refine g_aloadN D187 30 d_prog_15m2_29 rfl rfl rfl ?_
    refine g_getF D187 33 (hw _ w_66) Via.refl F2 d_prog_15m2_30 rfl ?_
    intro T191 D191
    refine g_iload D191 35 d_prog_15m2_33 rfl rfl ?_
    refine g_laload D191 36 V2 ⟨by decide, by decide⟩ rfl d_prog_15m2_35 rfl ?_
    refine g_lcmp D191 37 d_prog_15m2_36 rfl ?_
    by_cases hq : q < x0
    · refine g_ifN D191 40 d_prog_15m2_37 (tlt (clt_t hq)).2.1 rfl ?_
      refine g_iconst D191 41 (1 : Int32) d_prog_15m2_40 rfl rfl ?_
      refine g_goto D191 45 d_prog_15m2_41 (by decide) (by decide) ?_
      exact r_N D191 hret (by simp) hlk d_prog_15m2_45 ⟨⟨_, rfl, Or.inl ⟨own_nar1, (own_l12 hA hB hq)⟩⟩, rfl, rfl⟩ (by decide) (by decide)
    · refine g_ifY D191 44 d_prog_15m2_37 (flt (clt_f hq)).2.1 (by decide) (by decide) ?_
      refine g_iconst D191 45 (0 : Int32) d_prog_15m2_44 rfl rfl ?_
      exact r_N D191 hret (by simp) hlk d_prog_15m2_45 ⟨⟨_, rfl, Or.inr ⟨own_nar0, (own_l13 hA hB hq)⟩⟩, rfl, rfl⟩ (by decide) (by decide)

set_option maxRecDepth 65536 in
set_option maxHeartbeats 40000000 in
theorem cIn (l : Launch) (Z : State) (a0 : Array Value) (hw : ∀ d ∈ tables_1, d.before a0 Z = true) (ws : List Jvm.Cond) (f ee q : Int64) (h0 : Heap) (n0 : Nat) (Z0 : n0 ≤ h0.size)  :
    Con l (⟨"com/example/twelfths/twelfths/grid/BuilderAddPinLaw", "in", "(JJJ)Z"⟩ : MethodName) method_2_code 6 (some .boolean) ws ({ frames := 0, cells := 0, slots := 0, locals := 0 } : Room) Z #[(.long f), (.long ee), (.long q)] h0 (fun v h L => own_B (own_P1 f ee q) v ∧ L = [] ∧ h = h0) 0 0 := by
  refine enter (plainFor_of_name pn_4) ?_
  intro p e s m below meth c s₁ hnm hret hlk D0
  rw [ef_cIn m f ee q]
  refine g_lloadN D0 1 d_method_2_0 rfl rfl ?_
  refine g_lload D0 3 d_method_2_1 rfl rfl ?_
  refine g_lcmp D0 4 d_method_2_3 rfl ?_
  by_cases h1 : q < f
  · refine g_ifY D0 18 d_method_2_4 (tlt (cgt_t h1)).2.2.1 (by decide) (by decide) ?_
    refine g_iconst D0 19 (0 : Int32) d_method_2_18 rfl rfl ?_
    exact r_N D0 hret (by simp) hlk d_method_2_19 ⟨⟨_, rfl, Or.inr ⟨own_nar0, (own_l14 h1)⟩⟩, rfl, rfl⟩ (by decide) (by decide)
  · refine g_ifN D0 7 d_method_2_4 (flt (cgt_f h1)).2.2.1 rfl ?_
    refine g_lload D0 9 d_method_2_7 rfl rfl ?_
    refine g_lloadN D0 10 d_method_2_9 rfl rfl ?_
    refine g_lcmp D0 11 d_method_2_10 rfl ?_
    by_cases h2 : q < ee
    · refine g_ifN D0 14 d_method_2_11 (tlt (clt_t h2)).2.1 rfl ?_
      refine g_iconst D0 15 (1 : Int32) d_method_2_14 rfl rfl ?_
      refine g_goto D0 19 d_method_2_15 (by decide) (by decide) ?_
      exact r_N D0 hret (by simp) hlk d_method_2_19 ⟨⟨_, rfl, Or.inl ⟨own_nar1, (own_l15 h1 h2)⟩⟩, rfl, rfl⟩ (by decide) (by decide)
    · refine g_ifY D0 18 d_method_2_11 (flt (clt_f h2)).2.1 (by decide) (by decide) ?_
      refine g_iconst D0 19 (0 : Int32) d_method_2_18 rfl rfl ?_
      exact r_N D0 hret (by simp) hlk d_method_2_19 ⟨⟨_, rfl, Or.inr ⟨own_nar0, (own_l16 h1 h2)⟩⟩, rfl, rfl⟩ (by decide) (by decide)

set_option maxRecDepth 65536 in
set_option maxHeartbeats 40000000 in
theorem cX (l : Launch) (Z : State) (a0 : Array Value) (hw : ∀ d ∈ tables_1, d.before a0 Z = true) (ws : List Jvm.Cond) (x1 y1 x2 y2 q : Int64) (h0 : Heap) (n0 : Nat) (Z0 : n0 ≤ h0.size)  :
    Con l x code maxLocals ret ws room_1 Z #[(.long x1), (.long y1), (.long x2), (.long y2), (.long q)] h0 (fun v h L => v = some (.int 1) ∧ Fr n0 L) 32 192 := by
  refine enter (plainFor_of_name pn_4) ?_
  intro p e s m below meth c s₁ hnm hret hlk D0
  rw [ef_cX m x1 y1 x2 y2 q]
  refine g_lloadN D0 1 at_0 rfl rfl ?_
  refine g_lloadN D0 2 at_1 rfl rfl ?_
  refine g_callSp D0 5 (hw _ w_0) (hw _ w_1) (hw _ w_2) (hw _ w_3) (by decide) ((cMin l Z a0 hw [] x1 y1 h0 n0 Z0).back D0 0 (hw _ w_3) (hw _ w_2) (by decide) (by decide)) rfl [(.long x1), (.long y1)] rfl (lenOf pd_9 rfl) rfl (Nat.le_of_eq rfl) (by decide) (by decide) at_2 rfl ?_
  intro v192 T192 q192 D192
  subst q192
  show Go p e below _ (T192.setTop (mkF m 5 #[.val (.long x1), .second, .val (.long y1), .second, .val (.long x2), .second, .val (.long y2), .second, .val (.long q), .second, .unset, .unset, .unset, .unset, .unset, .unset, .unset, .unset, .unset, .unset, .unset, .unset, .unset] [(.long (own_mn x1 y1))]))
  refine g_lstore D192 7 #[.val (.long x1), .second, .val (.long y1), .second, .val (.long x2), .second, .val (.long y2), .second, .val (.long q), .second, .val (.long (own_mn x1 y1)), .second, .unset, .unset, .unset, .unset, .unset, .unset, .unset, .unset, .unset, .unset, .unset] at_5 rfl rfl ?_
  refine g_lloadN D192 8 at_7 rfl rfl ?_
  refine g_lloadN D192 9 at_8 rfl rfl ?_
  refine g_callSp D192 12 (hw _ w_4) (hw _ w_5) (hw _ w_2) (hw _ w_6) (by decide) ((cMax l Z a0 hw [] x1 y1 h0 n0 Z0).back D192 0 (hw _ w_6) (hw _ w_2) (by decide) (by decide)) rfl [(.long x1), (.long y1)] rfl (lenOf pd_9 rfl) rfl (Nat.le_of_eq rfl) (by decide) (by decide) at_9 rfl ?_
  intro v193 T193 q193 D193
  subst q193
  show Go p e below _ (T193.setTop (mkF m 12 #[.val (.long x1), .second, .val (.long y1), .second, .val (.long x2), .second, .val (.long y2), .second, .val (.long q), .second, .val (.long (own_mn x1 y1)), .second, .unset, .unset, .unset, .unset, .unset, .unset, .unset, .unset, .unset, .unset, .unset] [(.long (own_mx x1 y1))]))
  refine g_lstore D193 14 #[.val (.long x1), .second, .val (.long y1), .second, .val (.long x2), .second, .val (.long y2), .second, .val (.long q), .second, .val (.long (own_mn x1 y1)), .second, .val (.long (own_mx x1 y1)), .second, .unset, .unset, .unset, .unset, .unset, .unset, .unset, .unset, .unset] at_12 rfl rfl ?_
  refine g_lload D193 16 at_14 rfl rfl ?_
  refine g_lload D193 18 at_16 rfl rfl ?_
  refine g_callSp D193 21 (hw _ w_0) (hw _ w_1) (hw _ w_2) (hw _ w_3) (by decide) ((cMin l Z a0 hw [] x2 y2 h0 n0 Z0).back D193 0 (hw _ w_3) (hw _ w_2) (by decide) (by decide)) rfl [(.long x2), (.long y2)] rfl (lenOf pd_9 rfl) rfl (Nat.le_of_eq rfl) (by decide) (by decide) at_18 rfl ?_
  intro v194 T194 q194 D194
  subst q194
  show Go p e below _ (T194.setTop (mkF m 21 #[.val (.long x1), .second, .val (.long y1), .second, .val (.long x2), .second, .val (.long y2), .second, .val (.long q), .second, .val (.long (own_mn x1 y1)), .second, .val (.long (own_mx x1 y1)), .second, .unset, .unset, .unset, .unset, .unset, .unset, .unset, .unset, .unset] [(.long (own_mn x2 y2))]))
  refine g_lstore D194 23 #[.val (.long x1), .second, .val (.long y1), .second, .val (.long x2), .second, .val (.long y2), .second, .val (.long q), .second, .val (.long (own_mn x1 y1)), .second, .val (.long (own_mx x1 y1)), .second, .val (.long (own_mn x2 y2)), .second, .unset, .unset, .unset, .unset, .unset, .unset, .unset] at_21 rfl rfl ?_
  refine g_lload D194 25 at_23 rfl rfl ?_
  refine g_lload D194 27 at_25 rfl rfl ?_
  refine g_callSp D194 30 (hw _ w_4) (hw _ w_5) (hw _ w_2) (hw _ w_6) (by decide) ((cMax l Z a0 hw [] x2 y2 h0 n0 Z0).back D194 0 (hw _ w_6) (hw _ w_2) (by decide) (by decide)) rfl [(.long x2), (.long y2)] rfl (lenOf pd_9 rfl) rfl (Nat.le_of_eq rfl) (by decide) (by decide) at_27 rfl ?_
  intro v195 T195 q195 D195
  subst q195
  show Go p e below _ (T195.setTop (mkF m 30 #[.val (.long x1), .second, .val (.long y1), .second, .val (.long x2), .second, .val (.long y2), .second, .val (.long q), .second, .val (.long (own_mn x1 y1)), .second, .val (.long (own_mx x1 y1)), .second, .val (.long (own_mn x2 y2)), .second, .unset, .unset, .unset, .unset, .unset, .unset, .unset] [(.long (own_mx x2 y2))]))
  have ltf1 := own_le x1 y1
  have ltf2 := own_le x2 y2
  generalize own_mn x1 y1 = f1 at ltf1 ⊢
  generalize own_mx x1 y1 = e1 at ltf1 ⊢
  generalize own_mn x2 y2 = f2 at ltf2 ⊢
  generalize own_mx x2 y2 = e2 at ltf2 ⊢
  show Go p e below _ (T195.setTop (mkF m 30 #[.val (.long x1), .second, .val (.long y1), .second, .val (.long x2), .second, .val (.long y2), .second, .val (.long q), .second, .val (.long f1), .second, .val (.long e1), .second, .val (.long f2), .second, .unset, .unset, .unset, .unset, .unset, .unset, .unset] [(.long e2)]))
  refine g_lstore D195 32 #[.val (.long x1), .second, .val (.long y1), .second, .val (.long x2), .second, .val (.long y2), .second, .val (.long q), .second, .val (.long f1), .second, .val (.long e1), .second, .val (.long f2), .second, .val (.long e2), .second, .unset, .unset, .unset, .unset, .unset] at_30 rfl rfl ?_
  refine g_lload D195 34 at_32 rfl rfl ?_
  refine g_lload D195 36 at_34 rfl rfl ?_
  refine g_lcmp D195 37 at_36 rfl ?_
  by_cases z1 : f1 = e1
  · refine g_ifY D195 48 at_37 (teq (ceq_t z1)).1 (by decide) (by decide) ?_
    refine g_iconst D195 49 (1 : Int32) at_48 rfl rfl ?_
    exact r_N D195 hret (by simp) hlk at_49 ⟨own_r1, (Fr.nil n0)⟩ (by decide) (by decide)
  · refine g_ifN D195 40 at_37 (feq (ceq_f z1)).1 rfl ?_
    refine g_lload D195 42 at_40 rfl rfl ?_
    refine g_lload D195 44 at_42 rfl rfl ?_
    refine g_lcmp D195 45 at_44 rfl ?_
    by_cases z2 : f2 = e2
    · refine g_ifN D195 48 at_45 (teq (ceq_t z2)).2 rfl ?_
      refine g_iconst D195 49 (1 : Int32) at_48 rfl rfl ?_
      exact r_N D195 hret (by simp) hlk at_49 ⟨own_r1, (Fr.nil n0)⟩ (by decide) (by decide)
    · refine g_ifY D195 50 at_45 (feq (ceq_f z2)).2 (by decide) (by decide) ?_
      have hl1 := own_lt ltf1 z1
      have hl2 := own_lt ltf2 z2
      refine g_newO D195 53 (hw _ w_7) (hw _ w_8) (hw _ w_9) at_50 (by decide) (by decide) (fun _ _ => trivial) rfl ?_
      intro T196 h196 b g196 E196 A196 N196 D196
      refine g_dup D196 54 at_53 rfl rfl ?_
      refine g_callN D196 57 rfl (hw _ w_10) (hw _ w_11) (hw _ w_12) (by decide) ((cBI l Z a0 hw [] b h196 n0 (Nat.le_trans Z0 E196.1) A196 (N196 (Or.inl (hw _ w_18)) (ty := (.array .long)) (by decide)) (N196 (Or.inl (hw _ w_20)) (ty := (.array .long)) (by decide)) (N196 (Or.inl (hw _ w_27)) (ty := .int) (by decide)) (Nat.le_trans Z0 (Nat.le_of_eq g196.symm))).back D196 1 (hw _ w_12) (hw _ w_9) (by decide) (by decide)) rfl [] rfl (lenOf pd_10 rfl) rfl (Nat.le_of_eq rfl) (by decide) (by decide) (fun _ _ _ _ => trivial) at_54 rfl ?_
      intro v197 T197 h197 L197 q197 D197
      obtain ⟨rfl, N197, K197, A197, F3, a1, a2, k1, k2, y1', y2', F1, F2, V1, V2⟩ := q197
      have NF197 := Fr.app (Fr.nil n0) N197
      have nb1 : b ≠ a1 := Nat.ne_of_lt (Nat.lt_of_lt_of_le A196.lt y1')
      have nb2 : b ≠ a2 := Nat.ne_of_lt (Nat.lt_trans (Nat.lt_of_lt_of_le A196.lt y1') y2')
      have n12 : a1 ≠ a2 := Nat.ne_of_lt y2'
      have gb : n0 ≤ b := (Nat.le_trans Z0 (Nat.le_of_eq g196.symm))
      have g1 : n0 ≤ a1 := Nat.le_trans (Nat.le_trans Z0 E196.1) y1'
      have g2 : n0 ≤ a2 := Nat.le_trans g1 (Nat.le_of_lt y2')
      show Go p e below _ (T197.setTop (mkF m 57 #[.val (.long x1), .second, .val (.long y1), .second, .val (.long x2), .second, .val (.long y2), .second, .val (.long q), .second, .val (.long f1), .second, .val (.long e1), .second, .val (.long f2), .second, .val (.long e2), .second, .unset, .unset, .unset, .unset, .unset] [(.ref b)]))
      refine g_astore D197 59 #[.val (.long x1), .second, .val (.long y1), .second, .val (.long x2), .second, .val (.long y2), .second, .val (.long q), .second, .val (.long f1), .second, .val (.long e1), .second, .val (.long f2), .second, .val (.long e2), .second, .val (.ref b), .unset, .unset, .unset, .unset] at_57 rfl rfl rfl ?_
      refine g_aload D197 61 at_59 rfl rfl rfl ?_
      refine g_lload D197 63 at_61 rfl rfl ?_
      refine g_lload D197 65 at_63 rfl rfl ?_
      refine g_callV D197 68 (hw _ w_21) (hw _ w_22) (hw _ w_24) (hw _ w_24) (hw _ w_23) (by decide) ((cA0 l Z a0 hw [] b a1 a2 k1 k2 f1 e1 (0 : Int64) (0 : Int64) (0 : Int64) (0 : Int64) h197 n0 (Nat.le_trans (Nat.le_trans Z0 E196.1) K197.1) A197 F1 F2 F3 V1 V2 n12 nb1 nb2 gb g1 g2 hl1).back D197 0 (hw _ w_25) (hw _ w_9) (by decide) (by decide)) A197 rfl [(.long f1), (.long e1)] rfl (lenOf pd_11 rfl) rfl (Nat.le_of_eq rfl) (by decide) (by decide) (fun _ _ _ _ => trivial) at_65 rfl ?_
      intro v198 T198 h198 L198 q198 D198
      obtain ⟨rfl, N198, K198, A198, P198, R198, S198, V198, U198⟩ := q198
      have NF198 := Fr.app NF197 N198
      show Go p e below _ (T198.setTop (mkF m 68 #[.val (.long x1), .second, .val (.long y1), .second, .val (.long x2), .second, .val (.long y2), .second, .val (.long q), .second, .val (.long f1), .second, .val (.long e1), .second, .val (.long f2), .second, .val (.long e2), .second, .val (.ref b), .unset, .unset, .unset, .unset] [(.ref b)]))
      refine g_astore D198 70 #[.val (.long x1), .second, .val (.long y1), .second, .val (.long x2), .second, .val (.long y2), .second, .val (.long q), .second, .val (.long f1), .second, .val (.long e1), .second, .val (.long f2), .second, .val (.long e2), .second, .val (.ref b), .val (.ref b), .unset, .unset, .unset] at_68 rfl rfl rfl ?_
      refine g_aload D198 72 at_70 rfl rfl rfl ?_
      refine g_lload D198 74 at_72 rfl rfl ?_
      refine g_lload D198 76 at_74 rfl rfl ?_
      refine g_callV D198 79 (hw _ w_21) (hw _ w_22) (hw _ w_24) (hw _ w_24) (hw _ w_23) (by decide) ((cA1 l Z a0 hw [] b a1 a2 k1 k2 f2 e2 f1 (0 : Int64) e1 (0 : Int64) h198 n0 (Nat.le_trans (Nat.le_trans (Nat.le_trans Z0 E196.1) K197.1) K198.1) A198 P198 R198 S198 V198 U198 n12 nb1 nb2 gb g1 g2 hl2).back D198 0 (hw _ w_25) (hw _ w_9) (by decide) (by decide)) A198 rfl [(.long f2), (.long e2)] rfl (lenOf pd_11 rfl) rfl (Nat.le_of_eq rfl) (by decide) (by decide) (fun _ _ _ _ => trivial) at_76 rfl ?_
      intro v199 T199 h199 L199 q199 D199
      obtain ⟨rfl, N199, K199, A199, P199, R199, S199, V199, U199⟩ := q199
      have NF199 := Fr.app NF198 N199
      show Go p e below _ (T199.setTop (mkF m 79 #[.val (.long x1), .second, .val (.long y1), .second, .val (.long x2), .second, .val (.long y2), .second, .val (.long q), .second, .val (.long f1), .second, .val (.long e1), .second, .val (.long f2), .second, .val (.long e2), .second, .val (.ref b), .val (.ref b), .unset, .unset, .unset] [(.ref b)]))
      refine g_astore D199 81 #[.val (.long x1), .second, .val (.long y1), .second, .val (.long x2), .second, .val (.long y2), .second, .val (.long q), .second, .val (.long f1), .second, .val (.long e1), .second, .val (.long f2), .second, .val (.long e2), .second, .val (.ref b), .val (.ref b), .val (.ref b), .unset, .unset] at_79 rfl rfl rfl ?_
      refine g_aload D199 83 at_81 rfl rfl rfl ?_
      refine g_callV D199 86 (hw _ w_28) (hw _ w_29) (hw _ w_31) (hw _ w_31) (hw _ w_30) (by decide) ((cB l Z a0 hw [] b a1 a2 k1 k2 f1 f2 e1 e2 h199 n0 (Nat.le_trans (Nat.le_trans (Nat.le_trans (Nat.le_trans Z0 E196.1) K197.1) K198.1) K199.1) A199 P199 R199 S199 V199 U199 n12 nb1 nb2 gb g1 g2 hl1 hl2).back D199 0 (hw _ w_32) (hw _ w_9) (by decide) (by decide)) A199 rfl [] rfl (lenOf pd_12 rfl) rfl (Nat.le_of_eq rfl) (by decide) (by decide) (fun _ _ _ _ => trivial) at_83 rfl ?_
      intro v200 T200 h200 L200 q200 D200
      obtain ⟨hs, cF, cE, kF, kE, rfl, NB, EB, Ah, Pf, Pe, hB'⟩ := q200
      have ZB : n0 ≤ h200.size := Nat.le_trans (Nat.le_trans (Nat.le_trans (Nat.le_trans (Nat.le_trans Z0 E196.1) K197.1) K198.1) K199.1) EB.1
      have NF200 := Fr.app NF199 NB
      obtain ⟨hB, hBe⟩ : ∃ z, z = h200 := ⟨_, rfl⟩
      rw [← hBe] at Ah Pf Pe hB' ZB D200
      have m1 := own_mn_or f1 f2
      have m2 := own_mx_or f1 f2
      have m3 := own_mn_or e1 e2
      have m4 := own_mx_or e1 e2
      generalize own_mn f1 f2 = f0 at m1 hB'
      generalize own_mx f1 f2 = f9 at m2 hB'
      generalize own_mn e1 e2 = e0 at m3 hB'
      generalize own_mx e1 e2 = e9 at m4 hB'
      have s1 : (e1 - (1 : Int64)).toInt = e1.toInt - 1 := own_dec hl1
      have s2 : (e2 - (1 : Int64)).toInt = e2.toInt - 1 := own_dec hl2
      rcases hB' with ⟨hj, VF, VE⟩ | ⟨hj, VF, VE⟩
      · show Go p e below _ (T200.setTop (mkF m 86 #[.val (.long x1), .second, .val (.long y1), .second, .val (.long x2), .second, .val (.long y2), .second, .val (.long q), .second, .val (.long f1), .second, .val (.long e1), .second, .val (.long f2), .second, .val (.long e2), .second, .val (.ref b), .val (.ref b), .val (.ref b), .unset, .unset] [(.ref hs)]))
        refine g_astore D200 88 #[.val (.long x1), .second, .val (.long y1), .second, .val (.long x2), .second, .val (.long y2), .second, .val (.long q), .second, .val (.long f1), .second, .val (.long e1), .second, .val (.long f2), .second, .val (.long e2), .second, .val (.ref b), .val (.ref b), .val (.ref b), .val (.ref hs), .unset] at_86 rfl rfl rfl ?_
        refine g_lload D200 90 at_88 rfl rfl ?_
        refine g_lload D200 92 at_90 rfl rfl ?_
        refine g_lload D200 94 at_92 rfl rfl ?_
        refine g_callSp D200 97 (hw _ w_68) (hw _ w_69) (hw _ w_70) (hw _ w_71) (by decide) ((cIn l Z a0 hw [] f1 e1 q hB n0 ZB).back D200 0 (hw _ w_71) (hw _ w_70) (by decide) (by decide)) rfl [(.long f1), (.long e1), (.long q)] rfl (lenOf pd_13 rfl) rfl (Nat.le_of_eq rfl) (by decide) (by decide) at_94 rfl ?_
        intro v201 T201 q201 D201
        obtain ⟨ra, rfl, ca⟩ := q201
        rcases ca with ⟨rfl, ca⟩ | ⟨rfl, ca⟩
        · show Go p e below _ (T201.setTop (mkF m 97 #[.val (.long x1), .second, .val (.long y1), .second, .val (.long x2), .second, .val (.long y2), .second, .val (.long q), .second, .val (.long f1), .second, .val (.long e1), .second, .val (.long f2), .second, .val (.long e2), .second, .val (.ref b), .val (.ref b), .val (.ref b), .val (.ref hs), .unset] [(.int (1 : Int32))]))
          refine g_ifY D201 112 at_97 (by decide) (by decide) (by decide) ?_
          refine g_iconst D201 113 (1 : Int32) at_112 rfl rfl ?_
          refine g_goto D201 117 at_113 (by decide) (by decide) ?_
          refine g_istore D201 119 #[.val (.long x1), .second, .val (.long y1), .second, .val (.long x2), .second, .val (.long y2), .second, .val (.long q), .second, .val (.long f1), .second, .val (.long e1), .second, .val (.long f2), .second, .val (.long e2), .second, .val (.ref b), .val (.ref b), .val (.ref b), .val (.ref hs), .val (.int (1 : Int32))] at_117 rfl rfl ?_
          refine g_aload D201 121 at_119 rfl rfl rfl ?_
          refine g_aload D201 123 at_121 rfl rfl rfl ?_
          refine g_acmp D201 126 at_123 rfl rfl (same := true) (decide_eq_true rfl) (by decide) (by decide) ?_
          refine g_aload D201 128 at_126 rfl rfl rfl ?_
          refine g_aload D201 130 at_128 rfl rfl rfl ?_
          refine g_acmp D201 133 at_130 rfl rfl (same := true) (decide_eq_true rfl) (by decide) (by decide) ?_
          refine g_aload D201 135 at_133 rfl rfl rfl ?_
          refine g_lload D201 137 at_135 rfl rfl ?_
          refine g_callVp D201 140 (hw _ w_72) (hw _ w_73) (hw _ w_75) (hw _ w_75) (hw _ w_74) (by decide) ((cC_2 l Z a0 hw [] hs cF cE kF kE f0 f9 e0 e9 q hB n0 ZB Pf Pe VF VE).back D201 0 (hw _ w_76) (hw _ w_59) (by decide) (by decide)) Ah rfl [(.long q)] rfl (lenOf pd_14 rfl) rfl (Nat.le_of_eq rfl) (by decide) (by decide) at_137 rfl ?_
          intro v202 T202 q202 D202
          obtain ⟨r202, rfl, c202⟩ := q202
          have c202' : r202 = 1 := by
            rcases c202 with ⟨rfl, cc⟩ | ⟨rfl, cc⟩
            · rfl
            · exact absurd (own_l17 hl1 hl2 hj m1 m2 m3 m4 s1 s2 ca) cc
          subst c202'
          show Go p e below _ (T202.setTop (mkF m 140 #[.val (.long x1), .second, .val (.long y1), .second, .val (.long x2), .second, .val (.long y2), .second, .val (.long q), .second, .val (.long f1), .second, .val (.long e1), .second, .val (.long f2), .second, .val (.long e2), .second, .val (.ref b), .val (.ref b), .val (.ref b), .val (.ref hs), .val (.int (1 : Int32))] [(.int (1 : Int32))]))
          refine g_iload D202 142 at_140 rfl rfl ?_
          refine g_icmpN D202 145 at_142 (by decide) rfl ?_
          refine g_aload D202 147 at_145 rfl rfl rfl ?_
          refine g_lload D202 149 at_147 rfl rfl ?_
          refine g_callVp D202 152 (hw _ w_72) (hw _ w_73) (hw _ w_75) (hw _ w_75) (hw _ w_74) (by decide) ((cC_2 l Z a0 hw [] hs cF cE kF kE f0 f9 e0 e9 f1 hB n0 ZB Pf Pe VF VE).back D202 0 (hw _ w_76) (hw _ w_59) (by decide) (by decide)) Ah rfl [(.long f1)] rfl (lenOf pd_14 rfl) rfl (Nat.le_of_eq rfl) (by decide) (by decide) at_149 rfl ?_
          intro v203 T203 q203 D203
          obtain ⟨r203, rfl, c203⟩ := q203
          have c203' : r203 = 1 := by
            rcases c203 with ⟨rfl, cc⟩ | ⟨rfl, cc⟩
            · rfl
            · exact absurd (own_l18 hl1 hl2 hj m1 m2 m3 m4 s1 s2 ca) cc
          subst c203'
          show Go p e below _ (T203.setTop (mkF m 152 #[.val (.long x1), .second, .val (.long y1), .second, .val (.long x2), .second, .val (.long y2), .second, .val (.long q), .second, .val (.long f1), .second, .val (.long e1), .second, .val (.long f2), .second, .val (.long e2), .second, .val (.ref b), .val (.ref b), .val (.ref b), .val (.ref hs), .val (.int (1 : Int32))] [(.int (1 : Int32))]))
          refine g_ifN D203 155 at_152 (by decide) rfl ?_
          refine g_aload D203 157 at_155 rfl rfl rfl ?_
          refine g_lload D203 159 at_157 rfl rfl ?_
          refine g_lconst D203 160 (1 : Int64) at_159 rfl rfl ?_
          refine g_lsub D203 161 at_160 rfl ?_
          refine g_callVp D203 164 (hw _ w_72) (hw _ w_73) (hw _ w_75) (hw _ w_75) (hw _ w_74) (by decide) ((cC_2 l Z a0 hw [] hs cF cE kF kE f0 f9 e0 e9 (e1 - (1 : Int64)) hB n0 ZB Pf Pe VF VE).back D203 0 (hw _ w_76) (hw _ w_59) (by decide) (by decide)) Ah rfl [(.long (e1 - (1 : Int64)))] rfl (lenOf pd_14 rfl) rfl (Nat.le_of_eq rfl) (by decide) (by decide) at_161 rfl ?_
          intro v204 T204 q204 D204
          obtain ⟨r204, rfl, c204⟩ := q204
          have c204' : r204 = 1 := by
            rcases c204 with ⟨rfl, cc⟩ | ⟨rfl, cc⟩
            · rfl
            · exact absurd (own_l19 hl1 hl2 hj m1 m2 m3 m4 s1 s2 ca) cc
          subst c204'
          show Go p e below _ (T204.setTop (mkF m 164 #[.val (.long x1), .second, .val (.long y1), .second, .val (.long x2), .second, .val (.long y2), .second, .val (.long q), .second, .val (.long f1), .second, .val (.long e1), .second, .val (.long f2), .second, .val (.long e2), .second, .val (.ref b), .val (.ref b), .val (.ref b), .val (.ref hs), .val (.int (1 : Int32))] [(.int (1 : Int32))]))
          refine g_ifN D204 167 at_164 (by decide) rfl ?_
          refine g_aload D204 169 at_167 rfl rfl rfl ?_
          refine g_lload D204 171 at_169 rfl rfl ?_
          refine g_callVp D204 174 (hw _ w_72) (hw _ w_73) (hw _ w_75) (hw _ w_75) (hw _ w_74) (by decide) ((cC_2 l Z a0 hw [] hs cF cE kF kE f0 f9 e0 e9 f2 hB n0 ZB Pf Pe VF VE).back D204 0 (hw _ w_76) (hw _ w_59) (by decide) (by decide)) Ah rfl [(.long f2)] rfl (lenOf pd_14 rfl) rfl (Nat.le_of_eq rfl) (by decide) (by decide) at_171 rfl ?_
          intro v205 T205 q205 D205
          obtain ⟨r205, rfl, c205⟩ := q205
          have c205' : r205 = 1 := by
            rcases c205 with ⟨rfl, cc⟩ | ⟨rfl, cc⟩
            · rfl
            · exact absurd (own_l20 hl1 hl2 hj m1 m2 m3 m4 s1 s2 ca) cc
          subst c205'
          show Go p e below _ (T205.setTop (mkF m 174 #[.val (.long x1), .second, .val (.long y1), .second, .val (.long x2), .second, .val (.long y2), .second, .val (.long q), .second, .val (.long f1), .second, .val (.long e1), .second, .val (.long f2), .second, .val (.long e2), .second, .val (.ref b), .val (.ref b), .val (.ref b), .val (.ref hs), .val (.int (1 : Int32))] [(.int (1 : Int32))]))
          refine g_ifN D205 177 at_174 (by decide) rfl ?_
          refine g_aload D205 179 at_177 rfl rfl rfl ?_
          refine g_lload D205 181 at_179 rfl rfl ?_
          refine g_lconst D205 182 (1 : Int64) at_181 rfl rfl ?_
          refine g_lsub D205 183 at_182 rfl ?_
          refine g_callVp D205 186 (hw _ w_72) (hw _ w_73) (hw _ w_75) (hw _ w_75) (hw _ w_74) (by decide) ((cC_2 l Z a0 hw [] hs cF cE kF kE f0 f9 e0 e9 (e2 - (1 : Int64)) hB n0 ZB Pf Pe VF VE).back D205 0 (hw _ w_76) (hw _ w_59) (by decide) (by decide)) Ah rfl [(.long (e2 - (1 : Int64)))] rfl (lenOf pd_14 rfl) rfl (Nat.le_of_eq rfl) (by decide) (by decide) at_183 rfl ?_
          intro v206 T206 q206 D206
          obtain ⟨r206, rfl, c206⟩ := q206
          have c206' : r206 = 1 := by
            rcases c206 with ⟨rfl, cc⟩ | ⟨rfl, cc⟩
            · rfl
            · exact absurd (own_l21 hl1 hl2 hj m1 m2 m3 m4 s1 s2 ca) cc
          subst c206'
          show Go p e below _ (T206.setTop (mkF m 186 #[.val (.long x1), .second, .val (.long y1), .second, .val (.long x2), .second, .val (.long y2), .second, .val (.long q), .second, .val (.long f1), .second, .val (.long e1), .second, .val (.long f2), .second, .val (.long e2), .second, .val (.ref b), .val (.ref b), .val (.ref b), .val (.ref hs), .val (.int (1 : Int32))] [(.int (1 : Int32))]))
          refine g_ifN D206 189 at_186 (by decide) rfl ?_
          refine g_iconst D206 190 (1 : Int32) at_189 rfl rfl ?_
          refine g_goto D206 194 at_190 (by decide) (by decide) ?_
          exact r_N D206 hret (by simp) hlk at_194 ⟨own_r1, NF200⟩ (by decide) (by decide)
        · show Go p e below _ (T201.setTop (mkF m 97 #[.val (.long x1), .second, .val (.long y1), .second, .val (.long x2), .second, .val (.long y2), .second, .val (.long q), .second, .val (.long f1), .second, .val (.long e1), .second, .val (.long f2), .second, .val (.long e2), .second, .val (.ref b), .val (.ref b), .val (.ref b), .val (.ref hs), .unset] [(.int (0 : Int32))]))
          refine g_ifN D201 100 at_97 (by decide) rfl ?_
          refine g_lload D201 102 at_100 rfl rfl ?_
          refine g_lload D201 104 at_102 rfl rfl ?_
          refine g_lload D201 106 at_104 rfl rfl ?_
          refine g_callSp D201 109 (hw _ w_68) (hw _ w_69) (hw _ w_70) (hw _ w_71) (by decide) ((cIn l Z a0 hw [] f2 e2 q hB n0 ZB).back D201 0 (hw _ w_71) (hw _ w_70) (by decide) (by decide)) rfl [(.long f2), (.long e2), (.long q)] rfl (lenOf pd_13 rfl) rfl (Nat.le_of_eq rfl) (by decide) (by decide) at_106 rfl ?_
          intro v207 T207 q207 D207
          obtain ⟨rb, rfl, cb⟩ := q207
          rcases cb with ⟨rfl, cb⟩ | ⟨rfl, cb⟩
          · show Go p e below _ (T207.setTop (mkF m 109 #[.val (.long x1), .second, .val (.long y1), .second, .val (.long x2), .second, .val (.long y2), .second, .val (.long q), .second, .val (.long f1), .second, .val (.long e1), .second, .val (.long f2), .second, .val (.long e2), .second, .val (.ref b), .val (.ref b), .val (.ref b), .val (.ref hs), .unset] [(.int (1 : Int32))]))
            refine g_ifN D207 112 at_109 (by decide) rfl ?_
            refine g_iconst D207 113 (1 : Int32) at_112 rfl rfl ?_
            refine g_goto D207 117 at_113 (by decide) (by decide) ?_
            refine g_istore D207 119 #[.val (.long x1), .second, .val (.long y1), .second, .val (.long x2), .second, .val (.long y2), .second, .val (.long q), .second, .val (.long f1), .second, .val (.long e1), .second, .val (.long f2), .second, .val (.long e2), .second, .val (.ref b), .val (.ref b), .val (.ref b), .val (.ref hs), .val (.int (1 : Int32))] at_117 rfl rfl ?_
            refine g_aload D207 121 at_119 rfl rfl rfl ?_
            refine g_aload D207 123 at_121 rfl rfl rfl ?_
            refine g_acmp D207 126 at_123 rfl rfl (same := true) (decide_eq_true rfl) (by decide) (by decide) ?_
            refine g_aload D207 128 at_126 rfl rfl rfl ?_
            refine g_aload D207 130 at_128 rfl rfl rfl ?_
            refine g_acmp D207 133 at_130 rfl rfl (same := true) (decide_eq_true rfl) (by decide) (by decide) ?_
            refine g_aload D207 135 at_133 rfl rfl rfl ?_
            refine g_lload D207 137 at_135 rfl rfl ?_
            refine g_callVp D207 140 (hw _ w_72) (hw _ w_73) (hw _ w_75) (hw _ w_75) (hw _ w_74) (by decide) ((cC_2 l Z a0 hw [] hs cF cE kF kE f0 f9 e0 e9 q hB n0 ZB Pf Pe VF VE).back D207 0 (hw _ w_76) (hw _ w_59) (by decide) (by decide)) Ah rfl [(.long q)] rfl (lenOf pd_14 rfl) rfl (Nat.le_of_eq rfl) (by decide) (by decide) at_137 rfl ?_
            intro v208 T208 q208 D208
            obtain ⟨r208, rfl, c208⟩ := q208
            have c208' : r208 = 1 := by
              rcases c208 with ⟨rfl, cc⟩ | ⟨rfl, cc⟩
              · rfl
              · exact absurd (own_l22 hl1 hl2 hj m1 m2 m3 m4 s1 s2 ca cb) cc
            subst c208'
            show Go p e below _ (T208.setTop (mkF m 140 #[.val (.long x1), .second, .val (.long y1), .second, .val (.long x2), .second, .val (.long y2), .second, .val (.long q), .second, .val (.long f1), .second, .val (.long e1), .second, .val (.long f2), .second, .val (.long e2), .second, .val (.ref b), .val (.ref b), .val (.ref b), .val (.ref hs), .val (.int (1 : Int32))] [(.int (1 : Int32))]))
            refine g_iload D208 142 at_140 rfl rfl ?_
            refine g_icmpN D208 145 at_142 (by decide) rfl ?_
            refine g_aload D208 147 at_145 rfl rfl rfl ?_
            refine g_lload D208 149 at_147 rfl rfl ?_
            refine g_callVp D208 152 (hw _ w_72) (hw _ w_73) (hw _ w_75) (hw _ w_75) (hw _ w_74) (by decide) ((cC_2 l Z a0 hw [] hs cF cE kF kE f0 f9 e0 e9 f1 hB n0 ZB Pf Pe VF VE).back D208 0 (hw _ w_76) (hw _ w_59) (by decide) (by decide)) Ah rfl [(.long f1)] rfl (lenOf pd_14 rfl) rfl (Nat.le_of_eq rfl) (by decide) (by decide) at_149 rfl ?_
            intro v209 T209 q209 D209
            obtain ⟨r209, rfl, c209⟩ := q209
            have c209' : r209 = 1 := by
              rcases c209 with ⟨rfl, cc⟩ | ⟨rfl, cc⟩
              · rfl
              · exact absurd (own_l23 hl1 hl2 hj m1 m2 m3 m4 s1 s2 ca cb) cc
            subst c209'
            show Go p e below _ (T209.setTop (mkF m 152 #[.val (.long x1), .second, .val (.long y1), .second, .val (.long x2), .second, .val (.long y2), .second, .val (.long q), .second, .val (.long f1), .second, .val (.long e1), .second, .val (.long f2), .second, .val (.long e2), .second, .val (.ref b), .val (.ref b), .val (.ref b), .val (.ref hs), .val (.int (1 : Int32))] [(.int (1 : Int32))]))
            refine g_ifN D209 155 at_152 (by decide) rfl ?_
            refine g_aload D209 157 at_155 rfl rfl rfl ?_
            refine g_lload D209 159 at_157 rfl rfl ?_
            refine g_lconst D209 160 (1 : Int64) at_159 rfl rfl ?_
            refine g_lsub D209 161 at_160 rfl ?_
            refine g_callVp D209 164 (hw _ w_72) (hw _ w_73) (hw _ w_75) (hw _ w_75) (hw _ w_74) (by decide) ((cC_2 l Z a0 hw [] hs cF cE kF kE f0 f9 e0 e9 (e1 - (1 : Int64)) hB n0 ZB Pf Pe VF VE).back D209 0 (hw _ w_76) (hw _ w_59) (by decide) (by decide)) Ah rfl [(.long (e1 - (1 : Int64)))] rfl (lenOf pd_14 rfl) rfl (Nat.le_of_eq rfl) (by decide) (by decide) at_161 rfl ?_
            intro v210 T210 q210 D210
            obtain ⟨r210, rfl, c210⟩ := q210
            have c210' : r210 = 1 := by
              rcases c210 with ⟨rfl, cc⟩ | ⟨rfl, cc⟩
              · rfl
              · exact absurd (own_l24 hl1 hl2 hj m1 m2 m3 m4 s1 s2 ca cb) cc
            subst c210'
            show Go p e below _ (T210.setTop (mkF m 164 #[.val (.long x1), .second, .val (.long y1), .second, .val (.long x2), .second, .val (.long y2), .second, .val (.long q), .second, .val (.long f1), .second, .val (.long e1), .second, .val (.long f2), .second, .val (.long e2), .second, .val (.ref b), .val (.ref b), .val (.ref b), .val (.ref hs), .val (.int (1 : Int32))] [(.int (1 : Int32))]))
            refine g_ifN D210 167 at_164 (by decide) rfl ?_
            refine g_aload D210 169 at_167 rfl rfl rfl ?_
            refine g_lload D210 171 at_169 rfl rfl ?_
            refine g_callVp D210 174 (hw _ w_72) (hw _ w_73) (hw _ w_75) (hw _ w_75) (hw _ w_74) (by decide) ((cC_2 l Z a0 hw [] hs cF cE kF kE f0 f9 e0 e9 f2 hB n0 ZB Pf Pe VF VE).back D210 0 (hw _ w_76) (hw _ w_59) (by decide) (by decide)) Ah rfl [(.long f2)] rfl (lenOf pd_14 rfl) rfl (Nat.le_of_eq rfl) (by decide) (by decide) at_171 rfl ?_
            intro v211 T211 q211 D211
            obtain ⟨r211, rfl, c211⟩ := q211
            have c211' : r211 = 1 := by
              rcases c211 with ⟨rfl, cc⟩ | ⟨rfl, cc⟩
              · rfl
              · exact absurd (own_l25 hl1 hl2 hj m1 m2 m3 m4 s1 s2 ca cb) cc
            subst c211'
            show Go p e below _ (T211.setTop (mkF m 174 #[.val (.long x1), .second, .val (.long y1), .second, .val (.long x2), .second, .val (.long y2), .second, .val (.long q), .second, .val (.long f1), .second, .val (.long e1), .second, .val (.long f2), .second, .val (.long e2), .second, .val (.ref b), .val (.ref b), .val (.ref b), .val (.ref hs), .val (.int (1 : Int32))] [(.int (1 : Int32))]))
            refine g_ifN D211 177 at_174 (by decide) rfl ?_
            refine g_aload D211 179 at_177 rfl rfl rfl ?_
            refine g_lload D211 181 at_179 rfl rfl ?_
            refine g_lconst D211 182 (1 : Int64) at_181 rfl rfl ?_
            refine g_lsub D211 183 at_182 rfl ?_
            refine g_callVp D211 186 (hw _ w_72) (hw _ w_73) (hw _ w_75) (hw _ w_75) (hw _ w_74) (by decide) ((cC_2 l Z a0 hw [] hs cF cE kF kE f0 f9 e0 e9 (e2 - (1 : Int64)) hB n0 ZB Pf Pe VF VE).back D211 0 (hw _ w_76) (hw _ w_59) (by decide) (by decide)) Ah rfl [(.long (e2 - (1 : Int64)))] rfl (lenOf pd_14 rfl) rfl (Nat.le_of_eq rfl) (by decide) (by decide) at_183 rfl ?_
            intro v212 T212 q212 D212
            obtain ⟨r212, rfl, c212⟩ := q212
            have c212' : r212 = 1 := by
              rcases c212 with ⟨rfl, cc⟩ | ⟨rfl, cc⟩
              · rfl
              · exact absurd (own_l26 hl1 hl2 hj m1 m2 m3 m4 s1 s2 ca cb) cc
            subst c212'
            show Go p e below _ (T212.setTop (mkF m 186 #[.val (.long x1), .second, .val (.long y1), .second, .val (.long x2), .second, .val (.long y2), .second, .val (.long q), .second, .val (.long f1), .second, .val (.long e1), .second, .val (.long f2), .second, .val (.long e2), .second, .val (.ref b), .val (.ref b), .val (.ref b), .val (.ref hs), .val (.int (1 : Int32))] [(.int (1 : Int32))]))
            refine g_ifN D212 189 at_186 (by decide) rfl ?_
            refine g_iconst D212 190 (1 : Int32) at_189 rfl rfl ?_
            refine g_goto D212 194 at_190 (by decide) (by decide) ?_
            exact r_N D212 hret (by simp) hlk at_194 ⟨own_r1, NF200⟩ (by decide) (by decide)
          · show Go p e below _ (T207.setTop (mkF m 109 #[.val (.long x1), .second, .val (.long y1), .second, .val (.long x2), .second, .val (.long y2), .second, .val (.long q), .second, .val (.long f1), .second, .val (.long e1), .second, .val (.long f2), .second, .val (.long e2), .second, .val (.ref b), .val (.ref b), .val (.ref b), .val (.ref hs), .unset] [(.int (0 : Int32))]))
            refine g_ifY D207 116 at_109 (by decide) (by decide) (by decide) ?_
            refine g_iconst D207 117 (0 : Int32) at_116 rfl rfl ?_
            refine g_istore D207 119 #[.val (.long x1), .second, .val (.long y1), .second, .val (.long x2), .second, .val (.long y2), .second, .val (.long q), .second, .val (.long f1), .second, .val (.long e1), .second, .val (.long f2), .second, .val (.long e2), .second, .val (.ref b), .val (.ref b), .val (.ref b), .val (.ref hs), .val (.int (0 : Int32))] at_117 rfl rfl ?_
            refine g_aload D207 121 at_119 rfl rfl rfl ?_
            refine g_aload D207 123 at_121 rfl rfl rfl ?_
            refine g_acmp D207 126 at_123 rfl rfl (same := true) (decide_eq_true rfl) (by decide) (by decide) ?_
            refine g_aload D207 128 at_126 rfl rfl rfl ?_
            refine g_aload D207 130 at_128 rfl rfl rfl ?_
            refine g_acmp D207 133 at_130 rfl rfl (same := true) (decide_eq_true rfl) (by decide) (by decide) ?_
            refine g_aload D207 135 at_133 rfl rfl rfl ?_
            refine g_lload D207 137 at_135 rfl rfl ?_
            refine g_callVp D207 140 (hw _ w_72) (hw _ w_73) (hw _ w_75) (hw _ w_75) (hw _ w_74) (by decide) ((cC_2 l Z a0 hw [] hs cF cE kF kE f0 f9 e0 e9 q hB n0 ZB Pf Pe VF VE).back D207 0 (hw _ w_76) (hw _ w_59) (by decide) (by decide)) Ah rfl [(.long q)] rfl (lenOf pd_14 rfl) rfl (Nat.le_of_eq rfl) (by decide) (by decide) at_137 rfl ?_
            intro v213 T213 q213 D213
            obtain ⟨r213, rfl, c213⟩ := q213
            have c213' : r213 = 0 := by
              rcases c213 with ⟨rfl, cc⟩ | ⟨rfl, cc⟩
              · exact absurd cc (own_l27 hl1 hl2 hj m1 m2 m3 m4 s1 s2 ca cb)
              · rfl
            subst c213'
            show Go p e below _ (T213.setTop (mkF m 140 #[.val (.long x1), .second, .val (.long y1), .second, .val (.long x2), .second, .val (.long y2), .second, .val (.long q), .second, .val (.long f1), .second, .val (.long e1), .second, .val (.long f2), .second, .val (.long e2), .second, .val (.ref b), .val (.ref b), .val (.ref b), .val (.ref hs), .val (.int (0 : Int32))] [(.int (0 : Int32))]))
            refine g_iload D213 142 at_140 rfl rfl ?_
            refine g_icmpN D213 145 at_142 (by decide) rfl ?_
            refine g_aload D213 147 at_145 rfl rfl rfl ?_
            refine g_lload D213 149 at_147 rfl rfl ?_
            refine g_callVp D213 152 (hw _ w_72) (hw _ w_73) (hw _ w_75) (hw _ w_75) (hw _ w_74) (by decide) ((cC_2 l Z a0 hw [] hs cF cE kF kE f0 f9 e0 e9 f1 hB n0 ZB Pf Pe VF VE).back D213 0 (hw _ w_76) (hw _ w_59) (by decide) (by decide)) Ah rfl [(.long f1)] rfl (lenOf pd_14 rfl) rfl (Nat.le_of_eq rfl) (by decide) (by decide) at_149 rfl ?_
            intro v214 T214 q214 D214
            obtain ⟨r214, rfl, c214⟩ := q214
            have c214' : r214 = 1 := by
              rcases c214 with ⟨rfl, cc⟩ | ⟨rfl, cc⟩
              · rfl
              · exact absurd (own_l28 hl1 hl2 hj m1 m2 m3 m4 s1 s2 ca cb) cc
            subst c214'
            show Go p e below _ (T214.setTop (mkF m 152 #[.val (.long x1), .second, .val (.long y1), .second, .val (.long x2), .second, .val (.long y2), .second, .val (.long q), .second, .val (.long f1), .second, .val (.long e1), .second, .val (.long f2), .second, .val (.long e2), .second, .val (.ref b), .val (.ref b), .val (.ref b), .val (.ref hs), .val (.int (0 : Int32))] [(.int (1 : Int32))]))
            refine g_ifN D214 155 at_152 (by decide) rfl ?_
            refine g_aload D214 157 at_155 rfl rfl rfl ?_
            refine g_lload D214 159 at_157 rfl rfl ?_
            refine g_lconst D214 160 (1 : Int64) at_159 rfl rfl ?_
            refine g_lsub D214 161 at_160 rfl ?_
            refine g_callVp D214 164 (hw _ w_72) (hw _ w_73) (hw _ w_75) (hw _ w_75) (hw _ w_74) (by decide) ((cC_2 l Z a0 hw [] hs cF cE kF kE f0 f9 e0 e9 (e1 - (1 : Int64)) hB n0 ZB Pf Pe VF VE).back D214 0 (hw _ w_76) (hw _ w_59) (by decide) (by decide)) Ah rfl [(.long (e1 - (1 : Int64)))] rfl (lenOf pd_14 rfl) rfl (Nat.le_of_eq rfl) (by decide) (by decide) at_161 rfl ?_
            intro v215 T215 q215 D215
            obtain ⟨r215, rfl, c215⟩ := q215
            have c215' : r215 = 1 := by
              rcases c215 with ⟨rfl, cc⟩ | ⟨rfl, cc⟩
              · rfl
              · exact absurd (own_l29 hl1 hl2 hj m1 m2 m3 m4 s1 s2 ca cb) cc
            subst c215'
            show Go p e below _ (T215.setTop (mkF m 164 #[.val (.long x1), .second, .val (.long y1), .second, .val (.long x2), .second, .val (.long y2), .second, .val (.long q), .second, .val (.long f1), .second, .val (.long e1), .second, .val (.long f2), .second, .val (.long e2), .second, .val (.ref b), .val (.ref b), .val (.ref b), .val (.ref hs), .val (.int (0 : Int32))] [(.int (1 : Int32))]))
            refine g_ifN D215 167 at_164 (by decide) rfl ?_
            refine g_aload D215 169 at_167 rfl rfl rfl ?_
            refine g_lload D215 171 at_169 rfl rfl ?_
            refine g_callVp D215 174 (hw _ w_72) (hw _ w_73) (hw _ w_75) (hw _ w_75) (hw _ w_74) (by decide) ((cC_2 l Z a0 hw [] hs cF cE kF kE f0 f9 e0 e9 f2 hB n0 ZB Pf Pe VF VE).back D215 0 (hw _ w_76) (hw _ w_59) (by decide) (by decide)) Ah rfl [(.long f2)] rfl (lenOf pd_14 rfl) rfl (Nat.le_of_eq rfl) (by decide) (by decide) at_171 rfl ?_
            intro v216 T216 q216 D216
            obtain ⟨r216, rfl, c216⟩ := q216
            have c216' : r216 = 1 := by
              rcases c216 with ⟨rfl, cc⟩ | ⟨rfl, cc⟩
              · rfl
              · exact absurd (own_l30 hl1 hl2 hj m1 m2 m3 m4 s1 s2 ca cb) cc
            subst c216'
            show Go p e below _ (T216.setTop (mkF m 174 #[.val (.long x1), .second, .val (.long y1), .second, .val (.long x2), .second, .val (.long y2), .second, .val (.long q), .second, .val (.long f1), .second, .val (.long e1), .second, .val (.long f2), .second, .val (.long e2), .second, .val (.ref b), .val (.ref b), .val (.ref b), .val (.ref hs), .val (.int (0 : Int32))] [(.int (1 : Int32))]))
            refine g_ifN D216 177 at_174 (by decide) rfl ?_
            refine g_aload D216 179 at_177 rfl rfl rfl ?_
            refine g_lload D216 181 at_179 rfl rfl ?_
            refine g_lconst D216 182 (1 : Int64) at_181 rfl rfl ?_
            refine g_lsub D216 183 at_182 rfl ?_
            refine g_callVp D216 186 (hw _ w_72) (hw _ w_73) (hw _ w_75) (hw _ w_75) (hw _ w_74) (by decide) ((cC_2 l Z a0 hw [] hs cF cE kF kE f0 f9 e0 e9 (e2 - (1 : Int64)) hB n0 ZB Pf Pe VF VE).back D216 0 (hw _ w_76) (hw _ w_59) (by decide) (by decide)) Ah rfl [(.long (e2 - (1 : Int64)))] rfl (lenOf pd_14 rfl) rfl (Nat.le_of_eq rfl) (by decide) (by decide) at_183 rfl ?_
            intro v217 T217 q217 D217
            obtain ⟨r217, rfl, c217⟩ := q217
            have c217' : r217 = 1 := by
              rcases c217 with ⟨rfl, cc⟩ | ⟨rfl, cc⟩
              · rfl
              · exact absurd (own_l31 hl1 hl2 hj m1 m2 m3 m4 s1 s2 ca cb) cc
            subst c217'
            show Go p e below _ (T217.setTop (mkF m 186 #[.val (.long x1), .second, .val (.long y1), .second, .val (.long x2), .second, .val (.long y2), .second, .val (.long q), .second, .val (.long f1), .second, .val (.long e1), .second, .val (.long f2), .second, .val (.long e2), .second, .val (.ref b), .val (.ref b), .val (.ref b), .val (.ref hs), .val (.int (0 : Int32))] [(.int (1 : Int32))]))
            refine g_ifN D217 189 at_186 (by decide) rfl ?_
            refine g_iconst D217 190 (1 : Int32) at_189 rfl rfl ?_
            refine g_goto D217 194 at_190 (by decide) (by decide) ?_
            exact r_N D217 hret (by simp) hlk at_194 ⟨own_r1, NF200⟩ (by decide) (by decide)
      · show Go p e below _ (T200.setTop (mkF m 86 #[.val (.long x1), .second, .val (.long y1), .second, .val (.long x2), .second, .val (.long y2), .second, .val (.long q), .second, .val (.long f1), .second, .val (.long e1), .second, .val (.long f2), .second, .val (.long e2), .second, .val (.ref b), .val (.ref b), .val (.ref b), .unset, .unset] [(.ref hs)]))
        refine g_astore D200 88 #[.val (.long x1), .second, .val (.long y1), .second, .val (.long x2), .second, .val (.long y2), .second, .val (.long q), .second, .val (.long f1), .second, .val (.long e1), .second, .val (.long f2), .second, .val (.long e2), .second, .val (.ref b), .val (.ref b), .val (.ref b), .val (.ref hs), .unset] at_86 rfl rfl rfl ?_
        refine g_lload D200 90 at_88 rfl rfl ?_
        refine g_lload D200 92 at_90 rfl rfl ?_
        refine g_lload D200 94 at_92 rfl rfl ?_
        refine g_callSp D200 97 (hw _ w_68) (hw _ w_69) (hw _ w_70) (hw _ w_71) (by decide) ((cIn l Z a0 hw [] f1 e1 q hB n0 ZB).back D200 0 (hw _ w_71) (hw _ w_70) (by decide) (by decide)) rfl [(.long f1), (.long e1), (.long q)] rfl (lenOf pd_13 rfl) rfl (Nat.le_of_eq rfl) (by decide) (by decide) at_94 rfl ?_
        intro v218 T218 q218 D218
        obtain ⟨ra, rfl, ca⟩ := q218
        rcases ca with ⟨rfl, ca⟩ | ⟨rfl, ca⟩
        · show Go p e below _ (T218.setTop (mkF m 97 #[.val (.long x1), .second, .val (.long y1), .second, .val (.long x2), .second, .val (.long y2), .second, .val (.long q), .second, .val (.long f1), .second, .val (.long e1), .second, .val (.long f2), .second, .val (.long e2), .second, .val (.ref b), .val (.ref b), .val (.ref b), .val (.ref hs), .unset] [(.int (1 : Int32))]))
          refine g_ifY D218 112 at_97 (by decide) (by decide) (by decide) ?_
          refine g_iconst D218 113 (1 : Int32) at_112 rfl rfl ?_
          refine g_goto D218 117 at_113 (by decide) (by decide) ?_
          refine g_istore D218 119 #[.val (.long x1), .second, .val (.long y1), .second, .val (.long x2), .second, .val (.long y2), .second, .val (.long q), .second, .val (.long f1), .second, .val (.long e1), .second, .val (.long f2), .second, .val (.long e2), .second, .val (.ref b), .val (.ref b), .val (.ref b), .val (.ref hs), .val (.int (1 : Int32))] at_117 rfl rfl ?_
          refine g_aload D218 121 at_119 rfl rfl rfl ?_
          refine g_aload D218 123 at_121 rfl rfl rfl ?_
          refine g_acmp D218 126 at_123 rfl rfl (same := true) (decide_eq_true rfl) (by decide) (by decide) ?_
          refine g_aload D218 128 at_126 rfl rfl rfl ?_
          refine g_aload D218 130 at_128 rfl rfl rfl ?_
          refine g_acmp D218 133 at_130 rfl rfl (same := true) (decide_eq_true rfl) (by decide) (by decide) ?_
          refine g_aload D218 135 at_133 rfl rfl rfl ?_
          refine g_lload D218 137 at_135 rfl rfl ?_
          refine g_callVp D218 140 (hw _ w_72) (hw _ w_73) (hw _ w_75) (hw _ w_75) (hw _ w_74) (by decide) ((cC_1 l Z a0 hw [] hs cF cE kF kE f0 e9 q hB n0 ZB Pf Pe VF VE).back D218 0 (hw _ w_76) (hw _ w_59) (by decide) (by decide)) Ah rfl [(.long q)] rfl (lenOf pd_14 rfl) rfl (Nat.le_of_eq rfl) (by decide) (by decide) at_137 rfl ?_
          intro v219 T219 q219 D219
          obtain ⟨r219, rfl, c219⟩ := q219
          have c219' : r219 = 1 := by
            rcases c219 with ⟨rfl, cc⟩ | ⟨rfl, cc⟩
            · rfl
            · exact absurd (own_l32 hl1 hl2 hj m1 m2 m3 m4 s1 s2 ca) cc
          subst c219'
          show Go p e below _ (T219.setTop (mkF m 140 #[.val (.long x1), .second, .val (.long y1), .second, .val (.long x2), .second, .val (.long y2), .second, .val (.long q), .second, .val (.long f1), .second, .val (.long e1), .second, .val (.long f2), .second, .val (.long e2), .second, .val (.ref b), .val (.ref b), .val (.ref b), .val (.ref hs), .val (.int (1 : Int32))] [(.int (1 : Int32))]))
          refine g_iload D219 142 at_140 rfl rfl ?_
          refine g_icmpN D219 145 at_142 (by decide) rfl ?_
          refine g_aload D219 147 at_145 rfl rfl rfl ?_
          refine g_lload D219 149 at_147 rfl rfl ?_
          refine g_callVp D219 152 (hw _ w_72) (hw _ w_73) (hw _ w_75) (hw _ w_75) (hw _ w_74) (by decide) ((cC_1 l Z a0 hw [] hs cF cE kF kE f0 e9 f1 hB n0 ZB Pf Pe VF VE).back D219 0 (hw _ w_76) (hw _ w_59) (by decide) (by decide)) Ah rfl [(.long f1)] rfl (lenOf pd_14 rfl) rfl (Nat.le_of_eq rfl) (by decide) (by decide) at_149 rfl ?_
          intro v220 T220 q220 D220
          obtain ⟨r220, rfl, c220⟩ := q220
          have c220' : r220 = 1 := by
            rcases c220 with ⟨rfl, cc⟩ | ⟨rfl, cc⟩
            · rfl
            · exact absurd (own_l33 hl1 hl2 hj m1 m2 m3 m4 s1 s2 ca) cc
          subst c220'
          show Go p e below _ (T220.setTop (mkF m 152 #[.val (.long x1), .second, .val (.long y1), .second, .val (.long x2), .second, .val (.long y2), .second, .val (.long q), .second, .val (.long f1), .second, .val (.long e1), .second, .val (.long f2), .second, .val (.long e2), .second, .val (.ref b), .val (.ref b), .val (.ref b), .val (.ref hs), .val (.int (1 : Int32))] [(.int (1 : Int32))]))
          refine g_ifN D220 155 at_152 (by decide) rfl ?_
          refine g_aload D220 157 at_155 rfl rfl rfl ?_
          refine g_lload D220 159 at_157 rfl rfl ?_
          refine g_lconst D220 160 (1 : Int64) at_159 rfl rfl ?_
          refine g_lsub D220 161 at_160 rfl ?_
          refine g_callVp D220 164 (hw _ w_72) (hw _ w_73) (hw _ w_75) (hw _ w_75) (hw _ w_74) (by decide) ((cC_1 l Z a0 hw [] hs cF cE kF kE f0 e9 (e1 - (1 : Int64)) hB n0 ZB Pf Pe VF VE).back D220 0 (hw _ w_76) (hw _ w_59) (by decide) (by decide)) Ah rfl [(.long (e1 - (1 : Int64)))] rfl (lenOf pd_14 rfl) rfl (Nat.le_of_eq rfl) (by decide) (by decide) at_161 rfl ?_
          intro v221 T221 q221 D221
          obtain ⟨r221, rfl, c221⟩ := q221
          have c221' : r221 = 1 := by
            rcases c221 with ⟨rfl, cc⟩ | ⟨rfl, cc⟩
            · rfl
            · exact absurd (own_l34 hl1 hl2 hj m1 m2 m3 m4 s1 s2 ca) cc
          subst c221'
          show Go p e below _ (T221.setTop (mkF m 164 #[.val (.long x1), .second, .val (.long y1), .second, .val (.long x2), .second, .val (.long y2), .second, .val (.long q), .second, .val (.long f1), .second, .val (.long e1), .second, .val (.long f2), .second, .val (.long e2), .second, .val (.ref b), .val (.ref b), .val (.ref b), .val (.ref hs), .val (.int (1 : Int32))] [(.int (1 : Int32))]))
          refine g_ifN D221 167 at_164 (by decide) rfl ?_
          refine g_aload D221 169 at_167 rfl rfl rfl ?_
          refine g_lload D221 171 at_169 rfl rfl ?_
          refine g_callVp D221 174 (hw _ w_72) (hw _ w_73) (hw _ w_75) (hw _ w_75) (hw _ w_74) (by decide) ((cC_1 l Z a0 hw [] hs cF cE kF kE f0 e9 f2 hB n0 ZB Pf Pe VF VE).back D221 0 (hw _ w_76) (hw _ w_59) (by decide) (by decide)) Ah rfl [(.long f2)] rfl (lenOf pd_14 rfl) rfl (Nat.le_of_eq rfl) (by decide) (by decide) at_171 rfl ?_
          intro v222 T222 q222 D222
          obtain ⟨r222, rfl, c222⟩ := q222
          have c222' : r222 = 1 := by
            rcases c222 with ⟨rfl, cc⟩ | ⟨rfl, cc⟩
            · rfl
            · exact absurd (own_l35 hl1 hl2 hj m1 m2 m3 m4 s1 s2 ca) cc
          subst c222'
          show Go p e below _ (T222.setTop (mkF m 174 #[.val (.long x1), .second, .val (.long y1), .second, .val (.long x2), .second, .val (.long y2), .second, .val (.long q), .second, .val (.long f1), .second, .val (.long e1), .second, .val (.long f2), .second, .val (.long e2), .second, .val (.ref b), .val (.ref b), .val (.ref b), .val (.ref hs), .val (.int (1 : Int32))] [(.int (1 : Int32))]))
          refine g_ifN D222 177 at_174 (by decide) rfl ?_
          refine g_aload D222 179 at_177 rfl rfl rfl ?_
          refine g_lload D222 181 at_179 rfl rfl ?_
          refine g_lconst D222 182 (1 : Int64) at_181 rfl rfl ?_
          refine g_lsub D222 183 at_182 rfl ?_
          refine g_callVp D222 186 (hw _ w_72) (hw _ w_73) (hw _ w_75) (hw _ w_75) (hw _ w_74) (by decide) ((cC_1 l Z a0 hw [] hs cF cE kF kE f0 e9 (e2 - (1 : Int64)) hB n0 ZB Pf Pe VF VE).back D222 0 (hw _ w_76) (hw _ w_59) (by decide) (by decide)) Ah rfl [(.long (e2 - (1 : Int64)))] rfl (lenOf pd_14 rfl) rfl (Nat.le_of_eq rfl) (by decide) (by decide) at_183 rfl ?_
          intro v223 T223 q223 D223
          obtain ⟨r223, rfl, c223⟩ := q223
          have c223' : r223 = 1 := by
            rcases c223 with ⟨rfl, cc⟩ | ⟨rfl, cc⟩
            · rfl
            · exact absurd (own_l36 hl1 hl2 hj m1 m2 m3 m4 s1 s2 ca) cc
          subst c223'
          show Go p e below _ (T223.setTop (mkF m 186 #[.val (.long x1), .second, .val (.long y1), .second, .val (.long x2), .second, .val (.long y2), .second, .val (.long q), .second, .val (.long f1), .second, .val (.long e1), .second, .val (.long f2), .second, .val (.long e2), .second, .val (.ref b), .val (.ref b), .val (.ref b), .val (.ref hs), .val (.int (1 : Int32))] [(.int (1 : Int32))]))
          refine g_ifN D223 189 at_186 (by decide) rfl ?_
          refine g_iconst D223 190 (1 : Int32) at_189 rfl rfl ?_
          refine g_goto D223 194 at_190 (by decide) (by decide) ?_
          exact r_N D223 hret (by simp) hlk at_194 ⟨own_r1, NF200⟩ (by decide) (by decide)
        · show Go p e below _ (T218.setTop (mkF m 97 #[.val (.long x1), .second, .val (.long y1), .second, .val (.long x2), .second, .val (.long y2), .second, .val (.long q), .second, .val (.long f1), .second, .val (.long e1), .second, .val (.long f2), .second, .val (.long e2), .second, .val (.ref b), .val (.ref b), .val (.ref b), .val (.ref hs), .unset] [(.int (0 : Int32))]))
          refine g_ifN D218 100 at_97 (by decide) rfl ?_
          refine g_lload D218 102 at_100 rfl rfl ?_
          refine g_lload D218 104 at_102 rfl rfl ?_
          refine g_lload D218 106 at_104 rfl rfl ?_
          refine g_callSp D218 109 (hw _ w_68) (hw _ w_69) (hw _ w_70) (hw _ w_71) (by decide) ((cIn l Z a0 hw [] f2 e2 q hB n0 ZB).back D218 0 (hw _ w_71) (hw _ w_70) (by decide) (by decide)) rfl [(.long f2), (.long e2), (.long q)] rfl (lenOf pd_13 rfl) rfl (Nat.le_of_eq rfl) (by decide) (by decide) at_106 rfl ?_
          intro v224 T224 q224 D224
          obtain ⟨rb, rfl, cb⟩ := q224
          rcases cb with ⟨rfl, cb⟩ | ⟨rfl, cb⟩
          · show Go p e below _ (T224.setTop (mkF m 109 #[.val (.long x1), .second, .val (.long y1), .second, .val (.long x2), .second, .val (.long y2), .second, .val (.long q), .second, .val (.long f1), .second, .val (.long e1), .second, .val (.long f2), .second, .val (.long e2), .second, .val (.ref b), .val (.ref b), .val (.ref b), .val (.ref hs), .unset] [(.int (1 : Int32))]))
            refine g_ifN D224 112 at_109 (by decide) rfl ?_
            refine g_iconst D224 113 (1 : Int32) at_112 rfl rfl ?_
            refine g_goto D224 117 at_113 (by decide) (by decide) ?_
            refine g_istore D224 119 #[.val (.long x1), .second, .val (.long y1), .second, .val (.long x2), .second, .val (.long y2), .second, .val (.long q), .second, .val (.long f1), .second, .val (.long e1), .second, .val (.long f2), .second, .val (.long e2), .second, .val (.ref b), .val (.ref b), .val (.ref b), .val (.ref hs), .val (.int (1 : Int32))] at_117 rfl rfl ?_
            refine g_aload D224 121 at_119 rfl rfl rfl ?_
            refine g_aload D224 123 at_121 rfl rfl rfl ?_
            refine g_acmp D224 126 at_123 rfl rfl (same := true) (decide_eq_true rfl) (by decide) (by decide) ?_
            refine g_aload D224 128 at_126 rfl rfl rfl ?_
            refine g_aload D224 130 at_128 rfl rfl rfl ?_
            refine g_acmp D224 133 at_130 rfl rfl (same := true) (decide_eq_true rfl) (by decide) (by decide) ?_
            refine g_aload D224 135 at_133 rfl rfl rfl ?_
            refine g_lload D224 137 at_135 rfl rfl ?_
            refine g_callVp D224 140 (hw _ w_72) (hw _ w_73) (hw _ w_75) (hw _ w_75) (hw _ w_74) (by decide) ((cC_1 l Z a0 hw [] hs cF cE kF kE f0 e9 q hB n0 ZB Pf Pe VF VE).back D224 0 (hw _ w_76) (hw _ w_59) (by decide) (by decide)) Ah rfl [(.long q)] rfl (lenOf pd_14 rfl) rfl (Nat.le_of_eq rfl) (by decide) (by decide) at_137 rfl ?_
            intro v225 T225 q225 D225
            obtain ⟨r225, rfl, c225⟩ := q225
            have c225' : r225 = 1 := by
              rcases c225 with ⟨rfl, cc⟩ | ⟨rfl, cc⟩
              · rfl
              · exact absurd (own_l37 hl1 hl2 hj m1 m2 m3 m4 s1 s2 ca cb) cc
            subst c225'
            show Go p e below _ (T225.setTop (mkF m 140 #[.val (.long x1), .second, .val (.long y1), .second, .val (.long x2), .second, .val (.long y2), .second, .val (.long q), .second, .val (.long f1), .second, .val (.long e1), .second, .val (.long f2), .second, .val (.long e2), .second, .val (.ref b), .val (.ref b), .val (.ref b), .val (.ref hs), .val (.int (1 : Int32))] [(.int (1 : Int32))]))
            refine g_iload D225 142 at_140 rfl rfl ?_
            refine g_icmpN D225 145 at_142 (by decide) rfl ?_
            refine g_aload D225 147 at_145 rfl rfl rfl ?_
            refine g_lload D225 149 at_147 rfl rfl ?_
            refine g_callVp D225 152 (hw _ w_72) (hw _ w_73) (hw _ w_75) (hw _ w_75) (hw _ w_74) (by decide) ((cC_1 l Z a0 hw [] hs cF cE kF kE f0 e9 f1 hB n0 ZB Pf Pe VF VE).back D225 0 (hw _ w_76) (hw _ w_59) (by decide) (by decide)) Ah rfl [(.long f1)] rfl (lenOf pd_14 rfl) rfl (Nat.le_of_eq rfl) (by decide) (by decide) at_149 rfl ?_
            intro v226 T226 q226 D226
            obtain ⟨r226, rfl, c226⟩ := q226
            have c226' : r226 = 1 := by
              rcases c226 with ⟨rfl, cc⟩ | ⟨rfl, cc⟩
              · rfl
              · exact absurd (own_l38 hl1 hl2 hj m1 m2 m3 m4 s1 s2 ca cb) cc
            subst c226'
            show Go p e below _ (T226.setTop (mkF m 152 #[.val (.long x1), .second, .val (.long y1), .second, .val (.long x2), .second, .val (.long y2), .second, .val (.long q), .second, .val (.long f1), .second, .val (.long e1), .second, .val (.long f2), .second, .val (.long e2), .second, .val (.ref b), .val (.ref b), .val (.ref b), .val (.ref hs), .val (.int (1 : Int32))] [(.int (1 : Int32))]))
            refine g_ifN D226 155 at_152 (by decide) rfl ?_
            refine g_aload D226 157 at_155 rfl rfl rfl ?_
            refine g_lload D226 159 at_157 rfl rfl ?_
            refine g_lconst D226 160 (1 : Int64) at_159 rfl rfl ?_
            refine g_lsub D226 161 at_160 rfl ?_
            refine g_callVp D226 164 (hw _ w_72) (hw _ w_73) (hw _ w_75) (hw _ w_75) (hw _ w_74) (by decide) ((cC_1 l Z a0 hw [] hs cF cE kF kE f0 e9 (e1 - (1 : Int64)) hB n0 ZB Pf Pe VF VE).back D226 0 (hw _ w_76) (hw _ w_59) (by decide) (by decide)) Ah rfl [(.long (e1 - (1 : Int64)))] rfl (lenOf pd_14 rfl) rfl (Nat.le_of_eq rfl) (by decide) (by decide) at_161 rfl ?_
            intro v227 T227 q227 D227
            obtain ⟨r227, rfl, c227⟩ := q227
            have c227' : r227 = 1 := by
              rcases c227 with ⟨rfl, cc⟩ | ⟨rfl, cc⟩
              · rfl
              · exact absurd (own_l39 hl1 hl2 hj m1 m2 m3 m4 s1 s2 ca cb) cc
            subst c227'
            show Go p e below _ (T227.setTop (mkF m 164 #[.val (.long x1), .second, .val (.long y1), .second, .val (.long x2), .second, .val (.long y2), .second, .val (.long q), .second, .val (.long f1), .second, .val (.long e1), .second, .val (.long f2), .second, .val (.long e2), .second, .val (.ref b), .val (.ref b), .val (.ref b), .val (.ref hs), .val (.int (1 : Int32))] [(.int (1 : Int32))]))
            refine g_ifN D227 167 at_164 (by decide) rfl ?_
            refine g_aload D227 169 at_167 rfl rfl rfl ?_
            refine g_lload D227 171 at_169 rfl rfl ?_
            refine g_callVp D227 174 (hw _ w_72) (hw _ w_73) (hw _ w_75) (hw _ w_75) (hw _ w_74) (by decide) ((cC_1 l Z a0 hw [] hs cF cE kF kE f0 e9 f2 hB n0 ZB Pf Pe VF VE).back D227 0 (hw _ w_76) (hw _ w_59) (by decide) (by decide)) Ah rfl [(.long f2)] rfl (lenOf pd_14 rfl) rfl (Nat.le_of_eq rfl) (by decide) (by decide) at_171 rfl ?_
            intro v228 T228 q228 D228
            obtain ⟨r228, rfl, c228⟩ := q228
            have c228' : r228 = 1 := by
              rcases c228 with ⟨rfl, cc⟩ | ⟨rfl, cc⟩
              · rfl
              · exact absurd (own_l40 hl1 hl2 hj m1 m2 m3 m4 s1 s2 ca cb) cc
            subst c228'
            show Go p e below _ (T228.setTop (mkF m 174 #[.val (.long x1), .second, .val (.long y1), .second, .val (.long x2), .second, .val (.long y2), .second, .val (.long q), .second, .val (.long f1), .second, .val (.long e1), .second, .val (.long f2), .second, .val (.long e2), .second, .val (.ref b), .val (.ref b), .val (.ref b), .val (.ref hs), .val (.int (1 : Int32))] [(.int (1 : Int32))]))
            refine g_ifN D228 177 at_174 (by decide) rfl ?_
            refine g_aload D228 179 at_177 rfl rfl rfl ?_
            refine g_lload D228 181 at_179 rfl rfl ?_
            refine g_lconst D228 182 (1 : Int64) at_181 rfl rfl ?_
            refine g_lsub D228 183 at_182 rfl ?_
            refine g_callVp D228 186 (hw _ w_72) (hw _ w_73) (hw _ w_75) (hw _ w_75) (hw _ w_74) (by decide) ((cC_1 l Z a0 hw [] hs cF cE kF kE f0 e9 (e2 - (1 : Int64)) hB n0 ZB Pf Pe VF VE).back D228 0 (hw _ w_76) (hw _ w_59) (by decide) (by decide)) Ah rfl [(.long (e2 - (1 : Int64)))] rfl (lenOf pd_14 rfl) rfl (Nat.le_of_eq rfl) (by decide) (by decide) at_183 rfl ?_
            intro v229 T229 q229 D229
            obtain ⟨r229, rfl, c229⟩ := q229
            have c229' : r229 = 1 := by
              rcases c229 with ⟨rfl, cc⟩ | ⟨rfl, cc⟩
              · rfl
              · exact absurd (own_l41 hl1 hl2 hj m1 m2 m3 m4 s1 s2 ca cb) cc
            subst c229'
            show Go p e below _ (T229.setTop (mkF m 186 #[.val (.long x1), .second, .val (.long y1), .second, .val (.long x2), .second, .val (.long y2), .second, .val (.long q), .second, .val (.long f1), .second, .val (.long e1), .second, .val (.long f2), .second, .val (.long e2), .second, .val (.ref b), .val (.ref b), .val (.ref b), .val (.ref hs), .val (.int (1 : Int32))] [(.int (1 : Int32))]))
            refine g_ifN D229 189 at_186 (by decide) rfl ?_
            refine g_iconst D229 190 (1 : Int32) at_189 rfl rfl ?_
            refine g_goto D229 194 at_190 (by decide) (by decide) ?_
            exact r_N D229 hret (by simp) hlk at_194 ⟨own_r1, NF200⟩ (by decide) (by decide)
          · show Go p e below _ (T224.setTop (mkF m 109 #[.val (.long x1), .second, .val (.long y1), .second, .val (.long x2), .second, .val (.long y2), .second, .val (.long q), .second, .val (.long f1), .second, .val (.long e1), .second, .val (.long f2), .second, .val (.long e2), .second, .val (.ref b), .val (.ref b), .val (.ref b), .val (.ref hs), .unset] [(.int (0 : Int32))]))
            refine g_ifY D224 116 at_109 (by decide) (by decide) (by decide) ?_
            refine g_iconst D224 117 (0 : Int32) at_116 rfl rfl ?_
            refine g_istore D224 119 #[.val (.long x1), .second, .val (.long y1), .second, .val (.long x2), .second, .val (.long y2), .second, .val (.long q), .second, .val (.long f1), .second, .val (.long e1), .second, .val (.long f2), .second, .val (.long e2), .second, .val (.ref b), .val (.ref b), .val (.ref b), .val (.ref hs), .val (.int (0 : Int32))] at_117 rfl rfl ?_
            refine g_aload D224 121 at_119 rfl rfl rfl ?_
            refine g_aload D224 123 at_121 rfl rfl rfl ?_
            refine g_acmp D224 126 at_123 rfl rfl (same := true) (decide_eq_true rfl) (by decide) (by decide) ?_
            refine g_aload D224 128 at_126 rfl rfl rfl ?_
            refine g_aload D224 130 at_128 rfl rfl rfl ?_
            refine g_acmp D224 133 at_130 rfl rfl (same := true) (decide_eq_true rfl) (by decide) (by decide) ?_
            refine g_aload D224 135 at_133 rfl rfl rfl ?_
            refine g_lload D224 137 at_135 rfl rfl ?_
            refine g_callVp D224 140 (hw _ w_72) (hw _ w_73) (hw _ w_75) (hw _ w_75) (hw _ w_74) (by decide) ((cC_1 l Z a0 hw [] hs cF cE kF kE f0 e9 q hB n0 ZB Pf Pe VF VE).back D224 0 (hw _ w_76) (hw _ w_59) (by decide) (by decide)) Ah rfl [(.long q)] rfl (lenOf pd_14 rfl) rfl (Nat.le_of_eq rfl) (by decide) (by decide) at_137 rfl ?_
            intro v230 T230 q230 D230
            obtain ⟨r230, rfl, c230⟩ := q230
            have c230' : r230 = 0 := by
              rcases c230 with ⟨rfl, cc⟩ | ⟨rfl, cc⟩
              · exact absurd cc (own_l42 hl1 hl2 hj m1 m2 m3 m4 s1 s2 ca cb)
              · rfl
            subst c230'
            show Go p e below _ (T230.setTop (mkF m 140 #[.val (.long x1), .second, .val (.long y1), .second, .val (.long x2), .second, .val (.long y2), .second, .val (.long q), .second, .val (.long f1), .second, .val (.long e1), .second, .val (.long f2), .second, .val (.long e2), .second, .val (.ref b), .val (.ref b), .val (.ref b), .val (.ref hs), .val (.int (0 : Int32))] [(.int (0 : Int32))]))
            refine g_iload D230 142 at_140 rfl rfl ?_
            refine g_icmpN D230 145 at_142 (by decide) rfl ?_
            refine g_aload D230 147 at_145 rfl rfl rfl ?_
            refine g_lload D230 149 at_147 rfl rfl ?_
            refine g_callVp D230 152 (hw _ w_72) (hw _ w_73) (hw _ w_75) (hw _ w_75) (hw _ w_74) (by decide) ((cC_1 l Z a0 hw [] hs cF cE kF kE f0 e9 f1 hB n0 ZB Pf Pe VF VE).back D230 0 (hw _ w_76) (hw _ w_59) (by decide) (by decide)) Ah rfl [(.long f1)] rfl (lenOf pd_14 rfl) rfl (Nat.le_of_eq rfl) (by decide) (by decide) at_149 rfl ?_
            intro v231 T231 q231 D231
            obtain ⟨r231, rfl, c231⟩ := q231
            have c231' : r231 = 1 := by
              rcases c231 with ⟨rfl, cc⟩ | ⟨rfl, cc⟩
              · rfl
              · exact absurd (own_l43 hl1 hl2 hj m1 m2 m3 m4 s1 s2 ca cb) cc
            subst c231'
            show Go p e below _ (T231.setTop (mkF m 152 #[.val (.long x1), .second, .val (.long y1), .second, .val (.long x2), .second, .val (.long y2), .second, .val (.long q), .second, .val (.long f1), .second, .val (.long e1), .second, .val (.long f2), .second, .val (.long e2), .second, .val (.ref b), .val (.ref b), .val (.ref b), .val (.ref hs), .val (.int (0 : Int32))] [(.int (1 : Int32))]))
            refine g_ifN D231 155 at_152 (by decide) rfl ?_
            refine g_aload D231 157 at_155 rfl rfl rfl ?_
            refine g_lload D231 159 at_157 rfl rfl ?_
            refine g_lconst D231 160 (1 : Int64) at_159 rfl rfl ?_
            refine g_lsub D231 161 at_160 rfl ?_
            refine g_callVp D231 164 (hw _ w_72) (hw _ w_73) (hw _ w_75) (hw _ w_75) (hw _ w_74) (by decide) ((cC_1 l Z a0 hw [] hs cF cE kF kE f0 e9 (e1 - (1 : Int64)) hB n0 ZB Pf Pe VF VE).back D231 0 (hw _ w_76) (hw _ w_59) (by decide) (by decide)) Ah rfl [(.long (e1 - (1 : Int64)))] rfl (lenOf pd_14 rfl) rfl (Nat.le_of_eq rfl) (by decide) (by decide) at_161 rfl ?_
            intro v232 T232 q232 D232
            obtain ⟨r232, rfl, c232⟩ := q232
            have c232' : r232 = 1 := by
              rcases c232 with ⟨rfl, cc⟩ | ⟨rfl, cc⟩
              · rfl
              · exact absurd (own_l44 hl1 hl2 hj m1 m2 m3 m4 s1 s2 ca cb) cc
            subst c232'
            show Go p e below _ (T232.setTop (mkF m 164 #[.val (.long x1), .second, .val (.long y1), .second, .val (.long x2), .second, .val (.long y2), .second, .val (.long q), .second, .val (.long f1), .second, .val (.long e1), .second, .val (.long f2), .second, .val (.long e2), .second, .val (.ref b), .val (.ref b), .val (.ref b), .val (.ref hs), .val (.int (0 : Int32))] [(.int (1 : Int32))]))
            refine g_ifN D232 167 at_164 (by decide) rfl ?_
            refine g_aload D232 169 at_167 rfl rfl rfl ?_
            refine g_lload D232 171 at_169 rfl rfl ?_
            refine g_callVp D232 174 (hw _ w_72) (hw _ w_73) (hw _ w_75) (hw _ w_75) (hw _ w_74) (by decide) ((cC_1 l Z a0 hw [] hs cF cE kF kE f0 e9 f2 hB n0 ZB Pf Pe VF VE).back D232 0 (hw _ w_76) (hw _ w_59) (by decide) (by decide)) Ah rfl [(.long f2)] rfl (lenOf pd_14 rfl) rfl (Nat.le_of_eq rfl) (by decide) (by decide) at_171 rfl ?_
            intro v233 T233 q233 D233
            obtain ⟨r233, rfl, c233⟩ := q233
            have c233' : r233 = 1 := by
              rcases c233 with ⟨rfl, cc⟩ | ⟨rfl, cc⟩
              · rfl
              · exact absurd (own_l45 hl1 hl2 hj m1 m2 m3 m4 s1 s2 ca cb) cc
            subst c233'
            show Go p e below _ (T233.setTop (mkF m 174 #[.val (.long x1), .second, .val (.long y1), .second, .val (.long x2), .second, .val (.long y2), .second, .val (.long q), .second, .val (.long f1), .second, .val (.long e1), .second, .val (.long f2), .second, .val (.long e2), .second, .val (.ref b), .val (.ref b), .val (.ref b), .val (.ref hs), .val (.int (0 : Int32))] [(.int (1 : Int32))]))
            refine g_ifN D233 177 at_174 (by decide) rfl ?_
            refine g_aload D233 179 at_177 rfl rfl rfl ?_
            refine g_lload D233 181 at_179 rfl rfl ?_
            refine g_lconst D233 182 (1 : Int64) at_181 rfl rfl ?_
            refine g_lsub D233 183 at_182 rfl ?_
            refine g_callVp D233 186 (hw _ w_72) (hw _ w_73) (hw _ w_75) (hw _ w_75) (hw _ w_74) (by decide) ((cC_1 l Z a0 hw [] hs cF cE kF kE f0 e9 (e2 - (1 : Int64)) hB n0 ZB Pf Pe VF VE).back D233 0 (hw _ w_76) (hw _ w_59) (by decide) (by decide)) Ah rfl [(.long (e2 - (1 : Int64)))] rfl (lenOf pd_14 rfl) rfl (Nat.le_of_eq rfl) (by decide) (by decide) at_183 rfl ?_
            intro v234 T234 q234 D234
            obtain ⟨r234, rfl, c234⟩ := q234
            have c234' : r234 = 1 := by
              rcases c234 with ⟨rfl, cc⟩ | ⟨rfl, cc⟩
              · rfl
              · exact absurd (own_l46 hl1 hl2 hj m1 m2 m3 m4 s1 s2 ca cb) cc
            subst c234'
            show Go p e below _ (T234.setTop (mkF m 186 #[.val (.long x1), .second, .val (.long y1), .second, .val (.long x2), .second, .val (.long y2), .second, .val (.long q), .second, .val (.long f1), .second, .val (.long e1), .second, .val (.long f2), .second, .val (.long e2), .second, .val (.ref b), .val (.ref b), .val (.ref b), .val (.ref hs), .val (.int (0 : Int32))] [(.int (1 : Int32))]))
            refine g_ifN D234 189 at_186 (by decide) rfl ?_
            refine g_iconst D234 190 (1 : Int32) at_189 rfl rfl ?_
            refine g_goto D234 194 at_190 (by decide) (by decide) ?_
            exact r_N D234 hret (by simp) hlk at_194 ⟨own_r1, NF200⟩ (by decide) (by decide)
set_option maxRecDepth 65536 in
set_option maxHeartbeats 40000000 in
theorem comes_1 {Post : Tables → Env → Array Value → State → Outcome → State → Prop} (hpost : ∀ tb e args s v u, (limb_1_1.after args s (.returned v) u = true ∧ limb_1_2.after args s (.returned v) u = true ∧ True) → FrameEnd s (.returned v) u (Jvm.fieldLocs frame_1_writes args s ++ Jvm.arrayLocs frame_1_arrays args s ++ Jvm.staticLocs frame_1_statics s) 32 192 → Post tb e args s (.returned v) u) :
    ArmFor flags0 classFile x code maxLocals ret World_1 tables_1 room_1 Calls_1 rest_1 Pre_1 Post := by
  intro l hfl _ _ p e ha hc hk s m args below hf hA hF happ hP
  obtain ⟨hcalls, hrest, hpre⟩ := hP
  obtain ⟨-, -, -, hnamed, -, -, -, hat⟩ := (Spec.applies_iff hf).mp happ
  obtain ⟨hg, hn⟩ := and_e (Cond.before_iff.mp (show (Jvm.Cond.and given_1 narrow_1).before args s = true from hpre))
  obtain ⟨g1, gr1⟩ := and_e hg
  obtain ⟨g2, gr2⟩ := and_e gr1
  obtain ⟨g3, gr3⟩ := and_e gr2
  obtain ⟨g4, gr4⟩ := and_e gr3
  obtain ⟨g5, g6⟩ := and_e gr4
  obtain ⟨w0, w1, w2, w3, w4, rfl⟩ : ∃ w0 w1 w2 w3 w4 : Value, args = #[w0, w1, w2, w3, w4] := by
    have hs : args.size = 5 := by simpa [Cond.value, given_1] using g1
    obtain ⟨L⟩ := args
    match L, hs with
    | [w0, w1, w2, w3, w4], _ => exact ⟨w0, w1, w2, w3, w4, rfl⟩
  have hw := fun d (hd : d ∈ tables_1) => atoms_spec (ws := Jvm.Cond.code x code maxLocals ret :: tables_1) hat d (List.mem_cons_of_mem _ hd)
  obtain ⟨i0, ei0⟩ := isL_v g2
  obtain rfl : w0 = (.long i0) := Option.some.inj ei0
  obtain ⟨i1, ei1⟩ := isL_v g3
  obtain rfl : w1 = (.long i1) := Option.some.inj ei1
  obtain ⟨i2, ei2⟩ := isL_v g4
  obtain rfl : w2 = (.long i2) := Option.some.inj ei2
  obtain ⟨i3, ei3⟩ := isL_v g5
  obtain rfl : w3 = (.long i3) := Option.some.inj ei3
  obtain ⟨i4, ei4⟩ := isL_v g6
  obtain rfl : w4 = (.long i4) := Option.some.inj ei4
  obtain ⟨n, o, h1, h2, h3, _, L, rfl, ⟨rfl, N⟩, hq⟩ := cX l s _ hw tables_1 i0 i1 i2 i3 i4 s.heap s.heap.size (Nat.le_refl _) p e ha hc hk s m _ below hf ((Spec.applies_iff_loose hf).mp happ).1 ⟨rfl, State.Warmed39.refl s, rfl⟩ trivial
  refine ⟨n, _, h1, h2, h3, hpost _ _ _ _ _ _ ⟨Cond.after_iff.mpr rfl, Cond.after_iff.mpr (eq_i res_at (Term.int_eval (1)) rfl), trivial⟩ ⟨hq.1, hq.2.1, (hq.2.2.sift fun y hy => Or.inr (N y hy)).mono (by decide) (by decide)⟩⟩
theorem main_1_1 : Claimed_1_1 := comes_1 fun _ _ _ _ _ _ h hF => ⟨h.1, hF⟩
theorem main_1_2 : Claimed_1_2 := comes_1 fun _ _ _ _ _ _ h hF => ⟨h.2.1, hF⟩
end Jvm.Pilot.@@N@@
namespace Jvm.Pilot.@@N@@
open Jvm Jvm.ClassFile Sem Op Lib Jvm.Free Jvm.Stand Jvm.Pilot.@@N@@.Jvm.D
/-! MADE BY PROGRAM (witnessworld.py) out of the Statement's table words and the real class files: 16 classes; the members and pool entries that the words name. The judged class is class 1, her method 2. -/
namespace start1
open Jvm.ClassFile
def u (s : String) : CpInfo := .utf8 (stringToUtf16 s)
/-- a pool by its gaps: so many unusable entries, then the entry; so many at the end -/
def gap : Nat → List CpInfo → List CpInfo
  | 0, r => r
  | n + 1, r => .unusable :: gap n r
def poolList (es : List (Nat × CpInfo)) (last : Nat) : List CpInfo := es.foldr (fun e r => gap e.1 (e.2 :: r)) (gap last [])
def pool (es : List (Nat × CpInfo)) (last : Nat) : Array CpInfo := ⟨poolList es last⟩
def fileOf (pool : Array CpInfo) (this : Nat) (attrs : Array Attribute := #[]) (ms : Array MethodInfo := #[]) (fl : Nat := 33) (sup : Nat := 0) (ifs : Array Nat := #[]) (fds : Array FieldInfo := #[]) : ClassFile where
  minorVersion := 0
  majorVersion := 65
  constantPool := pool
  accessFlags := fl
  thisClass := this
  superClass := sup
  interfaces := ifs
  fields := fds
  methods := ms
  attributes := attrs
def plain (name : String) (sup : Option ClassId) : Class where
  name := name
  kind := .ordinary
  loader := none
  accessFlags := 33
  super := sup
  interfaces := #[]
  cf := none
  fields := #[]
  methods := #[]
  instanceTypes := #[]
  staticTypes := #[]
  resolved := #[]
  callSites := []
  init := .initialized
  statics := none
  mirror := none

def pool0 : Array CpInfo := pool [(5, u "<init>"), (0, u "()V"), (1, .class_ 10), (1, u "java/lang/Object"), (85, u "clone"), (0, u "()Ljava/lang/Object;")] 26

def k0c0 : Code := { maxStack := 0, maxLocals := 1, code := object_method_1_code, exceptionTable := #[], attributes := #[] }
def k0m0 : Method := { name := "<init>", desc := "()V", sig := { parameters := [], returnType := none }, accessFlags := 1, code := some k0c0 }
def k0m1 : Method := { name := "clone", desc := "()Ljava/lang/Object;", sig := { parameters := [], returnType := some (.object "java/lang/Object") }, accessFlags := 260, code := none }
/-- java/lang/Object -/
def k0 : Class := { plain "java/lang/Object" none with
  accessFlags := 33
  interfaces := #[]
  cf := some (fileOf pool0 8 #[] #[{ accessFlags := 1, nameIndex := 5, descriptorIndex := 6, attributes := #[] }, { accessFlags := 260, nameIndex := 96, descriptorIndex := 97, attributes := #[] }] 33 0 #[] #[])
  fields := #[]
  methods := #[k0m0, k0m1]
  instanceTypes := #[]
  staticTypes := #[]
  resolved := Array.replicate 124 none
  statics := none }

def pool1 : Array CpInfo := pool [(2, .class_ 4), (0, .nameAndType 5 6), (0, u "java/lang/Object"), (0, u "<init>"), (0, u "()V"), (0, .methodref 8 9), (0, .class_ 10), (0, .nameAndType 11 12), (0, u "java/lang/Math"), (0, u "min"), (0, u "(JJ)J"), (0, .methodref 8 14), (0, .nameAndType 15 12), (0, u "max"), (0, .class_ 17), (0, u "com/example/twelfths/twelfths/grid/HourSet$Builder"), (0, .methodref 16 3), (0, .methodref 16 20), (0, .nameAndType 21 22), (0, u "add"), (0, u "(JJ)Lcom/example/twelfths/twelfths/grid/HourSet$Builder;"), (0, .methodref 16 24), (0, .nameAndType 25 26), (0, u "build"), (0, u "()Lcom/example/twelfths/twelfths/grid/HourSet;"), (0, .methodref 28 29), (0, .class_ 30), (0, .nameAndType 31 32), (0, u "com/example/twelfths/twelfths/grid/BuilderAddPinLaw"), (0, u "in"), (0, u "(JJJ)Z"), (0, .methodref 34 35), (0, .class_ 36), (0, .nameAndType 37 38), (0, u "com/example/twelfths/twelfths/grid/HourSet"), (0, u "contains"), (0, u "(J)Z"), (3, u "law"), (0, u "(JJJJJ)Z")] 4

def k1m0 : Method := { name := "<init>", desc := "()V", sig := { parameters := [], returnType := none }, accessFlags := 2, code := none }
def k1c1 : Code := { maxStack := 4, maxLocals := 6, code := method_2_code, exceptionTable := #[], attributes := #[] }
def k1m1 : Method := { name := "in", desc := "(JJJ)Z", sig := { parameters := [.long, .long, .long], returnType := some .boolean }, accessFlags := 10, code := some k1c1 }
def k1c2 : Code := { maxStack := 6, maxLocals := 23, code := code, exceptionTable := #[], attributes := #[] }
def k1m2 : Method := { name := "law", desc := "(JJJJJ)Z", sig := { parameters := [.long, .long, .long, .long, .long], returnType := some .boolean }, accessFlags := 9, code := some k1c2 }
/-- com/example/twelfths/twelfths/grid/BuilderAddPinLaw -/
def k1 : Class := { plain "com/example/twelfths/twelfths/grid/BuilderAddPinLaw" (some 0) with
  accessFlags := 49
  interfaces := #[]
  cf := some (fileOf pool1 28 #[] #[{ accessFlags := 2, nameIndex := 5, descriptorIndex := 6, attributes := #[] }, { accessFlags := 10, nameIndex := 31, descriptorIndex := 32, attributes := #[] }, { accessFlags := 9, nameIndex := 42, descriptorIndex := 43, attributes := #[] }] 49 2 #[] #[])
  fields := #[]
  methods := #[k1m0, k1m1, k1m2]
  instanceTypes := #[]
  staticTypes := #[]
  resolved := Array.replicate 48 none
  statics := none }

def pool2 : Array CpInfo := pool [(1, .class_ 2), (0, u "java/lang/Math"), (1, .class_ 6), (1, u "java/lang/Object"), (0, u "<init>"), (0, u "()V"), (89, .class_ 100), (1, u "java/lang/Math$RandomNumberGeneratorHolder"), (20, u "(JJ)J"), (50, u "negativeZeroFloatBits"), (0, u "J"), (2, u "negativeZeroDoubleBits"), (21, u "max"), (2, u "min"), (43, u "$assertionsDisabled"), (0, u "Z"), (88, u "(II)I"), (2, u "twoToTheDoubleScaleDown"), (0, u "D"), (4, u "twoToTheDoubleScaleUp"), (9, u "E"), (3, u "PI"), (2, u "TAU"), (2, u "DEGREES_TO_RADIANS"), (0, u "RADIANS_TO_DEGREES")] 94

def k2m0 : Method := { name := "<init>", desc := "()V", sig := { parameters := [], returnType := none }, accessFlags := 2, code := none }
def k2c1 : Code := { maxStack := 4, maxLocals := 4, code := jdk_29_method_66_code, exceptionTable := #[], attributes := #[] }
def k2m1 : Method := { name := "max", desc := "(JJ)J", sig := { parameters := [.long, .long], returnType := some .long }, accessFlags := 9, code := some k2c1 }
def k2c2 : Code := { maxStack := 2, maxLocals := 2, code := jdk_29_method_69_code, exceptionTable := #[], attributes := #[] }
def k2m2 : Method := { name := "min", desc := "(II)I", sig := { parameters := [.int, .int], returnType := some .int }, accessFlags := 9, code := some k2c2 }
def k2c3 : Code := { maxStack := 4, maxLocals := 4, code := jdk_29_method_70_code, exceptionTable := #[], attributes := #[] }
def k2m3 : Method := { name := "min", desc := "(JJ)J", sig := { parameters := [.long, .long], returnType := some .long }, accessFlags := 9, code := some k2c3 }
/-- java/lang/Math -/
def k2 : Class := { plain "java/lang/Math" (some 0) with
  accessFlags := 49
  interfaces := #[]
  cf := some (fileOf pool2 1 #[.nestMembers #[98]] #[{ accessFlags := 2, nameIndex := 7, descriptorIndex := 8, attributes := #[] }, { accessFlags := 9, nameIndex := 198, descriptorIndex := 121, attributes := #[] }, { accessFlags := 9, nameIndex := 201, descriptorIndex := 335, attributes := #[] }, { accessFlags := 9, nameIndex := 201, descriptorIndex := 121, attributes := #[] }] 49 4 #[] #[{ accessFlags := 25, nameIndex := 354, descriptorIndex := 339, attributes := #[] }, { accessFlags := 25, nameIndex := 358, descriptorIndex := 339, attributes := #[] }, { accessFlags := 25, nameIndex := 361, descriptorIndex := 339, attributes := #[] }, { accessFlags := 26, nameIndex := 364, descriptorIndex := 339, attributes := #[] }, { accessFlags := 26, nameIndex := 365, descriptorIndex := 339, attributes := #[] }, { accessFlags := 26, nameIndex := 172, descriptorIndex := 173, attributes := #[] }, { accessFlags := 26, nameIndex := 176, descriptorIndex := 173, attributes := #[] }, { accessFlags := 8, nameIndex := 344, descriptorIndex := 339, attributes := #[] }, { accessFlags := 8, nameIndex := 338, descriptorIndex := 339, attributes := #[] }, { accessFlags := 4120, nameIndex := 245, descriptorIndex := 246, attributes := #[] }])
  fields := #[{ name := "E", type := .double, accessFlags := 25, slot := 0, constantValue := 0 }, { name := "PI", type := .double, accessFlags := 25, slot := 1, constantValue := 0 }, { name := "TAU", type := .double, accessFlags := 25, slot := 2, constantValue := 0 }, { name := "DEGREES_TO_RADIANS", type := .double, accessFlags := 26, slot := 3, constantValue := 0 }, { name := "RADIANS_TO_DEGREES", type := .double, accessFlags := 26, slot := 4, constantValue := 0 }, { name := "negativeZeroFloatBits", type := .long, accessFlags := 26, slot := 5, constantValue := 0 }, { name := "negativeZeroDoubleBits", type := .long, accessFlags := 26, slot := 6, constantValue := 0 }, { name := "twoToTheDoubleScaleUp", type := .double, accessFlags := 8, slot := 7, constantValue := 0 }, { name := "twoToTheDoubleScaleDown", type := .double, accessFlags := 8, slot := 8, constantValue := 0 }, { name := "$assertionsDisabled", type := .boolean, accessFlags := 4120, slot := 9, constantValue := 0 }]
  methods := #[k2m0, k2m1, k2m2, k2m3]
  instanceTypes := #[]
  staticTypes := #[.double, .double, .double, .double, .double, .long, .long, .double, .double, .boolean]
  resolved := Array.replicate 460 none
  statics := none }

def pool3 : Array CpInfo := pool [(1, .methodref 2 3), (0, .class_ 4), (0, .nameAndType 5 6), (0, u "java/lang/Object"), (0, u "<init>"), (0, u "()V"), (0, .fieldref 8 9), (0, .class_ 10), (0, .nameAndType 11 12), (0, u "com/example/twelfths/twelfths/grid/HourSet$Builder"), (0, u "firsts"), (0, u "[J"), (0, .fieldref 8 14), (0, .nameAndType 15 12), (0, u "ends"), (9, .fieldref 8 26), (0, .nameAndType 27 28), (0, u "size"), (0, u "I"), (0, .methodref 30 31), (0, .class_ 32), (0, .nameAndType 33 34), (0, u "java/util/Arrays"), (0, u "copyOf"), (0, u "([JI)[J"), (0, .methodref 30 36), (0, .nameAndType 37 38), (0, u "sort"), (0, u "([J)V"), (0, .class_ 40), (0, u "com/example/twelfths/twelfths/grid/HourSet"), (0, .methodref 39 42), (0, .nameAndType 5 43), (0, u "([J[J)V"), (2, u "add"), (0, u "(JJ)Lcom/example/twelfths/twelfths/grid/HourSet$Builder;"), (1, u "build"), (0, u "()Lcom/example/twelfths/twelfths/grid/HourSet;")] 20

def k3c0 : Code := { maxStack := 2, maxLocals := 1, code := prog_16_method_1_code, exceptionTable := #[], attributes := #[] }
def k3m0 : Method := { name := "<init>", desc := "()V", sig := { parameters := [], returnType := none }, accessFlags := 1, code := some k3c0 }
def k3c1 : Code := { maxStack := 6, maxLocals := 5, code := prog_16_method_2_code, exceptionTable := #[], attributes := #[] }
def k3m1 : Method := { name := "add", desc := "(JJ)Lcom/example/twelfths/twelfths/grid/HourSet$Builder;", sig := { parameters := [.long, .long], returnType := some (.object "com/example/twelfths/twelfths/grid/HourSet$Builder") }, accessFlags := 1, code := some k3c1 }
def k3c2 : Code := { maxStack := 5, maxLocals := 9, code := prog_16_method_3_code, exceptionTable := #[], attributes := #[] }
def k3m2 : Method := { name := "build", desc := "()Lcom/example/twelfths/twelfths/grid/HourSet;", sig := { parameters := [], returnType := some (.object "com/example/twelfths/twelfths/grid/HourSet") }, accessFlags := 1, code := some k3c2 }
/-- com/example/twelfths/twelfths/grid/HourSet$Builder -/
def k3 : Class := { plain "com/example/twelfths/twelfths/grid/HourSet$Builder" (some 0) with
  accessFlags := 49
  interfaces := #[]
  cf := some (fileOf pool3 8 #[.nestHost 39] #[{ accessFlags := 1, nameIndex := 5, descriptorIndex := 6, attributes := #[] }, { accessFlags := 1, nameIndex := 46, descriptorIndex := 47, attributes := #[] }, { accessFlags := 1, nameIndex := 49, descriptorIndex := 50, attributes := #[] }] 49 2 #[] #[{ accessFlags := 2, nameIndex := 11, descriptorIndex := 12, attributes := #[] }, { accessFlags := 2, nameIndex := 15, descriptorIndex := 12, attributes := #[] }, { accessFlags := 2, nameIndex := 27, descriptorIndex := 28, attributes := #[] }])
  fields := #[{ name := "firsts", type := (.array .long), accessFlags := 2, slot := 0, constantValue := 0 }, { name := "ends", type := (.array .long), accessFlags := 2, slot := 1, constantValue := 0 }, { name := "size", type := .int, accessFlags := 2, slot := 2, constantValue := 0 }]
  methods := #[k3m0, k3m1, k3m2]
  instanceTypes := #[(.array .long), (.array .long), .int]
  staticTypes := #[]
  resolved := Array.replicate 71 none
  statics := none }

def pool4 : Array CpInfo := pool [(2, .class_ 4), (1, u "java/lang/Object"), (0, u "<init>"), (0, u "()V"), (1, .class_ 10), (1, u "java/util/DualPivotQuicksort"), (0, u "sort"), (2, .class_ 16), (1, u "java/util/Arrays"), (2, .methodref 8 20), (0, .nameAndType 11 21), (0, u "([JIII)V"), (52, .class_ 76), (1, u "java/util/Arrays$NaturalOrder"), (32, u "()Ljava/lang/Object;"), (3, .class_ 115), (1, u "java/util/Arrays$LegacyMergeSort"), (1, u "Z"), (10, .nameAndType 129 109), (0, u "clone"), (20, .methodref 151 152), (0, .class_ 153), (0, .nameAndType 154 155), (0, u "java/lang/System"), (0, u "arraycopy"), (0, u "(Ljava/lang/Object;ILjava/lang/Object;II)V"), (49, .methodref 14 206), (0, .nameAndType 207 208), (0, u "binarySearch0"), (0, u "([JIIJ)I"), (93, u "copyOf"), (1, .methodref 305 306), (0, .class_ 307), (0, .nameAndType 308 309), (0, u "java/lang/Math"), (0, u "min"), (0, u "(II)I"), (9, .methodref 320 128), (0, .class_ 321), (0, u "[J"), (53, .class_ 376), (0, u "java/util/Arrays$ArrayList"), (68, u "$assertionsDisabled"), (269, u "MIN_ARRAY_SORT_GRAN"), (0, u "I"), (2, u "INSERTIONSORT_THRESHOLD"), (11, u "([J)V"), (62, u "binarySearch"), (0, u "([JJ)I"), (76, u "([JI)[J"), (102, .class_ 976), (0, u "java/util/Arrays$ArrayItr")] 52

def k4m0 : Method := { name := "<init>", desc := "()V", sig := { parameters := [], returnType := none }, accessFlags := 2, code := none }
def k4c1 : Code := { maxStack := 4, maxLocals := 1, code := jdk_65_method_4_code, exceptionTable := #[], attributes := #[] }
def k4m1 : Method := { name := "sort", desc := "([J)V", sig := { parameters := [(.array .long)], returnType := none }, accessFlags := 9, code := some k4c1 }
def k4c2 : Code := { maxStack := 5, maxLocals := 3, code := jdk_65_method_54_code, exceptionTable := #[], attributes := #[] }
def k4m2 : Method := { name := "binarySearch", desc := "([JJ)I", sig := { parameters := [(.array .long), .long], returnType := some .int }, accessFlags := 9, code := some k4c2 }
def k4c3 : Code := { maxStack := 4, maxLocals := 10, code := jdk_65_method_56_code, exceptionTable := #[], attributes := #[] }
def k4m3 : Method := { name := "binarySearch0", desc := "([JIIJ)I", sig := { parameters := [(.array .long), .int, .int, .long], returnType := some .int }, accessFlags := 10, code := some k4c3 }
def k4c4 : Code := { maxStack := 6, maxLocals := 3, code := jdk_65_method_124_code, exceptionTable := #[], attributes := #[] }
def k4m4 : Method := { name := "copyOf", desc := "([JI)[J", sig := { parameters := [(.array .long), .int], returnType := some (.array .long) }, accessFlags := 9, code := some k4c4 }
/-- java/util/Arrays -/
def k4 : Class := { plain "java/util/Arrays" (some 0) with
  accessFlags := 49
  interfaces := #[]
  cf := some (fileOf pool4 14 #[.nestMembers #[975, 375, 113, 74]] #[{ accessFlags := 2, nameIndex := 5, descriptorIndex := 6, attributes := #[] }, { accessFlags := 9, nameIndex := 11, descriptorIndex := 731, attributes := #[] }, { accessFlags := 9, nameIndex := 794, descriptorIndex := 795, attributes := #[] }, { accessFlags := 10, nameIndex := 207, descriptorIndex := 208, attributes := #[] }, { accessFlags := 9, nameIndex := 302, descriptorIndex := 872, attributes := #[] }] 49 2 #[] #[{ accessFlags := 26, nameIndex := 715, descriptorIndex := 716, attributes := #[] }, { accessFlags := 26, nameIndex := 719, descriptorIndex := 716, attributes := #[] }, { accessFlags := 4120, nameIndex := 445, descriptorIndex := 117, attributes := #[] }])
  fields := #[{ name := "MIN_ARRAY_SORT_GRAN", type := .int, accessFlags := 26, slot := 0, constantValue := 0 }, { name := "INSERTIONSORT_THRESHOLD", type := .int, accessFlags := 26, slot := 1, constantValue := 0 }, { name := "$assertionsDisabled", type := .boolean, accessFlags := 4120, slot := 2, constantValue := 0 }]
  methods := #[k4m0, k4m1, k4m2, k4m3, k4m4]
  instanceTypes := #[]
  staticTypes := #[.int, .int, .boolean]
  resolved := Array.replicate 1029 none
  statics := none }

def pool5 : Array CpInfo := pool [(2, .class_ 4), (1, u "java/lang/Object"), (0, u "<init>"), (0, u "()V"), (1, .class_ 10), (1, u "java/lang/System"), (0, u "allowSecurityManager"), (0, u "I"), (16, u "cons"), (0, u "Ljava/io/Console;"), (77, .class_ 110), (1, u "java/lang/System$CallersHolder"), (43, u "initialErrStream"), (0, u "Ljava/io/PrintStream;"), (19, u "security"), (0, u "Ljava/lang/SecurityManager;"), (31, .class_ 209), (0, u "java/lang/System$1"), (7, u "props"), (0, u "Ljava/util/Properties;"), (2, u "lineSeparator"), (0, u "Ljava/lang/String;"), (96, .class_ 321), (1, u "java/lang/System$LoggerFinder"), (5, .class_ 328), (0, u "java/lang/System$Logger"), (67, u "err"), (2, u "out"), (91, u "notSupportedJnuEncoding"), (15, u "in"), (17, u "initialIn"), (0, u "Ljava/io/InputStream;"), (35, u "bootLayer"), (0, u "Ljava/lang/ModuleLayer;"), (99, .class_ 664), (0, u "java/lang/System$2"), (9, u "NEVER"), (2, u "MAYBE"), (49, u "arraycopy"), (0, u "(Ljava/lang/Object;ILjava/lang/Object;II)V"), (72, .class_ 802), (0, u "java/lang/System$Logger$Level")] 31

def k5m0 : Method := { name := "<init>", desc := "()V", sig := { parameters := [], returnType := none }, accessFlags := 2, code := none }
def k5m1 : Method := { name := "arraycopy", desc := "(Ljava/lang/Object;ILjava/lang/Object;II)V", sig := { parameters := [(.object "java/lang/Object"), .int, (.object "java/lang/Object"), .int, .int], returnType := none }, accessFlags := 265, code := none }
/-- java/lang/System -/
def k5 : Class := { plain "java/lang/System" (some 0) with
  accessFlags := 49
  interfaces := #[]
  cf := some (fileOf pool5 8 #[.nestMembers #[319, 327, 801, 108, 663, 208]] #[{ accessFlags := 2, nameIndex := 5, descriptorIndex := 6, attributes := #[] }, { accessFlags := 265, nameIndex := 727, descriptorIndex := 728, attributes := #[] }] 49 2 #[] #[{ accessFlags := 25, nameIndex := 507, descriptorIndex := 526, attributes := #[] }, { accessFlags := 25, nameIndex := 399, descriptorIndex := 155, attributes := #[] }, { accessFlags := 25, nameIndex := 396, descriptorIndex := 155, attributes := #[] }, { accessFlags := 10, nameIndex := 525, descriptorIndex := 526, attributes := #[] }, { accessFlags := 26, nameIndex := 674, descriptorIndex := 12, attributes := #[] }, { accessFlags := 26, nameIndex := 677, descriptorIndex := 12, attributes := #[] }, { accessFlags := 10, nameIndex := 11, descriptorIndex := 12, attributes := #[] }, { accessFlags := 74, nameIndex := 175, descriptorIndex := 176, attributes := #[] }, { accessFlags := 10, nameIndex := 491, descriptorIndex := 222, attributes := #[] }, { accessFlags := 74, nameIndex := 29, descriptorIndex := 30, attributes := #[] }, { accessFlags := 74, nameIndex := 154, descriptorIndex := 155, attributes := #[] }, { accessFlags := 10, nameIndex := 217, descriptorIndex := 218, attributes := #[] }, { accessFlags := 10, nameIndex := 221, descriptorIndex := 222, attributes := #[] }, { accessFlags := 8, nameIndex := 562, descriptorIndex := 563, attributes := #[] }])
  fields := #[{ name := "in", type := (.object "java/io/InputStream"), accessFlags := 25, slot := 0, constantValue := 0 }, { name := "out", type := (.object "java/io/PrintStream"), accessFlags := 25, slot := 1, constantValue := 0 }, { name := "err", type := (.object "java/io/PrintStream"), accessFlags := 25, slot := 2, constantValue := 0 }, { name := "initialIn", type := (.object "java/io/InputStream"), accessFlags := 10, slot := 3, constantValue := 0 }, { name := "NEVER", type := .int, accessFlags := 26, slot := 4, constantValue := 0 }, { name := "MAYBE", type := .int, accessFlags := 26, slot := 5, constantValue := 0 }, { name := "allowSecurityManager", type := .int, accessFlags := 10, slot := 6, constantValue := 0 }, { name := "security", type := (.object "java/lang/SecurityManager"), accessFlags := 74, slot := 7, constantValue := 0 }, { name := "notSupportedJnuEncoding", type := (.object "java/lang/String"), accessFlags := 10, slot := 8, constantValue := 0 }, { name := "cons", type := (.object "java/io/Console"), accessFlags := 74, slot := 9, constantValue := 0 }, { name := "initialErrStream", type := (.object "java/io/PrintStream"), accessFlags := 74, slot := 10, constantValue := 0 }, { name := "props", type := (.object "java/util/Properties"), accessFlags := 10, slot := 11, constantValue := 0 }, { name := "lineSeparator", type := (.object "java/lang/String"), accessFlags := 10, slot := 12, constantValue := 0 }, { name := "bootLayer", type := (.object "java/lang/ModuleLayer"), accessFlags := 8, slot := 13, constantValue := 0 }]
  methods := #[k5m0, k5m1]
  instanceTypes := #[]
  staticTypes := #[(.object "java/io/InputStream"), (.object "java/io/PrintStream"), (.object "java/io/PrintStream"), (.object "java/io/InputStream"), .int, .int, .int, (.object "java/lang/SecurityManager"), (.object "java/lang/String"), (.object "java/io/Console"), (.object "java/io/PrintStream"), (.object "java/util/Properties"), (.object "java/lang/String"), (.object "java/lang/ModuleLayer")]
  resolved := Array.replicate 834 none
  statics := none }

def pool6 : Array CpInfo := pool [(1, .class_ 2), (0, u "java/util/DualPivotQuicksort"), (5, .class_ 10), (1, u "java/lang/Object"), (0, u "<init>"), (0, u "()V"), (4, .class_ 18), (0, u "java/util/DualPivotQuicksort$Sorter"), (9, u "sort"), (7, u "insertionSort"), (31, u "I"), (4, .class_ 74), (0, u "java/util/DualPivotQuicksort$RunMerger"), (10, .class_ 86), (0, u "java/util/DualPivotQuicksort$Merger"), (12, .methodref 1 100), (0, .nameAndType 28 101), (0, u "(Ljava/util/DualPivotQuicksort$Sorter;[JIII)V"), (2, u "([JIII)V"), (0, .methodref 1 106), (0, .nameAndType 36 107), (0, u "([JII)V"), (106, u "MAX_MIXED_INSERTION_SORT_SIZE"), (2, u "MAX_INSERTION_SORT_SIZE"), (1, u "MIN_PARALLEL_SORT_SIZE"), (1, u "MIN_TRY_MERGE_SIZE"), (0, u "MIN_FIRST_RUN_SIZE"), (1, u "MIN_FIRST_RUNS_FACTOR"), (1, u "MAX_RUN_CAPACITY"), (1, u "MIN_RUN_COUNT"), (1, u "MIN_PARALLEL_MERGE_PARTS_SIZE"), (0, u "MIN_BYTE_COUNTING_SORT_SIZE"), (1, u "MIN_SHORT_OR_CHAR_COUNTING_SORT_SIZE"), (1, u "DELTA"), (1, u "MAX_RECURSION_DEPTH"), (1, u "NUM_BYTE_VALUES"), (1, u "MAX_BYTE_INDEX"), (0, u "NUM_CHAR_VALUES"), (0, u "NUM_SHORT_VALUES"), (0, u "MAX_SHORT_INDEX")] 86

def k6m0 : Method := { name := "<init>", desc := "()V", sig := { parameters := [], returnType := none }, accessFlags := 2, code := none }
def k6c1 : Code := { maxStack := 9, maxLocals := 7, code := jdk_2529_method_12_code, exceptionTable := #[], attributes := #[] }
def k6m1 : Method := { name := "sort", desc := "([JIII)V", sig := { parameters := [(.array .long), .int, .int, .int], returnType := none }, accessFlags := 8, code := some k6c1 }
def k6c2 : Code := { maxStack := 6, maxLocals := 25, code := jdk_2529_method_13_code, exceptionTable := #[], attributes := #[] }
def k6m2 : Method := { name := "sort", desc := "(Ljava/util/DualPivotQuicksort$Sorter;[JIII)V", sig := { parameters := [(.object "java/util/DualPivotQuicksort$Sorter"), (.array .long), .int, .int, .int], returnType := none }, accessFlags := 8, code := some k6c2 }
def k6c3 : Code := { maxStack := 5, maxLocals := 7, code := jdk_2529_method_15_code, exceptionTable := #[], attributes := #[] }
def k6m3 : Method := { name := "insertionSort", desc := "([JII)V", sig := { parameters := [(.array .long), .int, .int], returnType := none }, accessFlags := 10, code := some k6c3 }
/-- java/util/DualPivotQuicksort -/
def k6 : Class := { plain "java/util/DualPivotQuicksort" (some 0) with
  accessFlags := 48
  interfaces := #[]
  cf := some (fileOf pool6 1 #[.nestMembers #[73, 85, 17]] #[{ accessFlags := 2, nameIndex := 11, descriptorIndex := 12, attributes := #[] }, { accessFlags := 8, nameIndex := 28, descriptorIndex := 104, attributes := #[] }, { accessFlags := 8, nameIndex := 28, descriptorIndex := 101, attributes := #[] }, { accessFlags := 10, nameIndex := 36, descriptorIndex := 107, attributes := #[] }] 48 8 #[] #[{ accessFlags := 26, nameIndex := 214, descriptorIndex := 68, attributes := #[] }, { accessFlags := 26, nameIndex := 217, descriptorIndex := 68, attributes := #[] }, { accessFlags := 26, nameIndex := 219, descriptorIndex := 68, attributes := #[] }, { accessFlags := 26, nameIndex := 221, descriptorIndex := 68, attributes := #[] }, { accessFlags := 26, nameIndex := 222, descriptorIndex := 68, attributes := #[] }, { accessFlags := 26, nameIndex := 224, descriptorIndex := 68, attributes := #[] }, { accessFlags := 26, nameIndex := 226, descriptorIndex := 68, attributes := #[] }, { accessFlags := 26, nameIndex := 228, descriptorIndex := 68, attributes := #[] }, { accessFlags := 26, nameIndex := 230, descriptorIndex := 68, attributes := #[] }, { accessFlags := 26, nameIndex := 231, descriptorIndex := 68, attributes := #[] }, { accessFlags := 26, nameIndex := 233, descriptorIndex := 68, attributes := #[] }, { accessFlags := 26, nameIndex := 235, descriptorIndex := 68, attributes := #[] }, { accessFlags := 26, nameIndex := 237, descriptorIndex := 68, attributes := #[] }, { accessFlags := 26, nameIndex := 239, descriptorIndex := 68, attributes := #[] }, { accessFlags := 26, nameIndex := 241, descriptorIndex := 68, attributes := #[] }, { accessFlags := 26, nameIndex := 242, descriptorIndex := 68, attributes := #[] }, { accessFlags := 26, nameIndex := 243, descriptorIndex := 68, attributes := #[] }, { accessFlags := 26, nameIndex := 244, descriptorIndex := 68, attributes := #[] }])
  fields := #[{ name := "MAX_MIXED_INSERTION_SORT_SIZE", type := .int, accessFlags := 26, slot := 0, constantValue := 0 }, { name := "MAX_INSERTION_SORT_SIZE", type := .int, accessFlags := 26, slot := 1, constantValue := 0 }, { name := "MIN_PARALLEL_SORT_SIZE", type := .int, accessFlags := 26, slot := 2, constantValue := 0 }, { name := "MIN_TRY_MERGE_SIZE", type := .int, accessFlags := 26, slot := 3, constantValue := 0 }, { name := "MIN_FIRST_RUN_SIZE", type := .int, accessFlags := 26, slot := 4, constantValue := 0 }, { name := "MIN_FIRST_RUNS_FACTOR", type := .int, accessFlags := 26, slot := 5, constantValue := 0 }, { name := "MAX_RUN_CAPACITY", type := .int, accessFlags := 26, slot := 6, constantValue := 0 }, { name := "MIN_RUN_COUNT", type := .int, accessFlags := 26, slot := 7, constantValue := 0 }, { name := "MIN_PARALLEL_MERGE_PARTS_SIZE", type := .int, accessFlags := 26, slot := 8, constantValue := 0 }, { name := "MIN_BYTE_COUNTING_SORT_SIZE", type := .int, accessFlags := 26, slot := 9, constantValue := 0 }, { name := "MIN_SHORT_OR_CHAR_COUNTING_SORT_SIZE", type := .int, accessFlags := 26, slot := 10, constantValue := 0 }, { name := "DELTA", type := .int, accessFlags := 26, slot := 11, constantValue := 0 }, { name := "MAX_RECURSION_DEPTH", type := .int, accessFlags := 26, slot := 12, constantValue := 0 }, { name := "NUM_BYTE_VALUES", type := .int, accessFlags := 26, slot := 13, constantValue := 0 }, { name := "MAX_BYTE_INDEX", type := .int, accessFlags := 26, slot := 14, constantValue := 0 }, { name := "NUM_CHAR_VALUES", type := .int, accessFlags := 26, slot := 15, constantValue := 0 }, { name := "NUM_SHORT_VALUES", type := .int, accessFlags := 26, slot := 16, constantValue := 0 }, { name := "MAX_SHORT_INDEX", type := .int, accessFlags := 26, slot := 17, constantValue := 0 }]
  methods := #[k6m0, k6m1, k6m2, k6m3]
  instanceTypes := #[]
  staticTypes := #[.int, .int, .int, .int, .int, .int, .int, .int, .int, .int, .int, .int, .int, .int, .int, .int, .int, .int]
  resolved := Array.replicate 331 none
  statics := none }

def pool7 : Array CpInfo := pool [(1, .methodref 2 3), (0, .class_ 4), (0, .nameAndType 5 6), (0, u "java/lang/Object"), (0, u "<init>"), (0, u "()V"), (0, .fieldref 8 9), (0, .class_ 10), (0, .nameAndType 11 12), (0, u "com/example/twelfths/twelfths/grid/HourSet"), (0, u "firsts"), (0, u "[J"), (0, .fieldref 8 14), (0, .nameAndType 15 12), (0, u "ends"), (0, .methodref 17 18), (0, .class_ 19), (0, .nameAndType 20 21), (0, u "java/util/Arrays"), (0, u "binarySearch"), (0, u "([JJ)I"), (0, .class_ 23), (0, u "com/example/twelfths/twelfths/grid/HourSet$Builder"), (7, u "EMPTY"), (0, u "Lcom/example/twelfths/twelfths/grid/HourSet;"), (0, u "([J[J)V"), (2, u "contains"), (0, u "(J)Z")] 7

def k7c0 : Code := { maxStack := 2, maxLocals := 3, code := prog_15_method_1_code, exceptionTable := #[], attributes := #[] }
def k7m0 : Method := { name := "<init>", desc := "([J[J)V", sig := { parameters := [(.array .long), (.array .long)], returnType := none }, accessFlags := 2, code := some k7c0 }
def k7c1 : Code := { maxStack := 4, maxLocals := 5, code := prog_15_method_2_code, exceptionTable := #[], attributes := #[] }
def k7m1 : Method := { name := "contains", desc := "(J)Z", sig := { parameters := [.long], returnType := some .boolean }, accessFlags := 1, code := some k7c1 }
/-- com/example/twelfths/twelfths/grid/HourSet -/
def k7 : Class := { plain "com/example/twelfths/twelfths/grid/HourSet" (some 0) with
  accessFlags := 49
  interfaces := #[]
  cf := some (fileOf pool7 8 #[.nestMembers #[22]] #[{ accessFlags := 2, nameIndex := 5, descriptorIndex := 33, attributes := #[] }, { accessFlags := 1, nameIndex := 36, descriptorIndex := 37, attributes := #[] }] 49 2 #[] #[{ accessFlags := 25, nameIndex := 31, descriptorIndex := 32, attributes := #[] }, { accessFlags := 18, nameIndex := 11, descriptorIndex := 12, attributes := #[] }, { accessFlags := 18, nameIndex := 15, descriptorIndex := 12, attributes := #[] }])
  fields := #[{ name := "EMPTY", type := (.object "com/example/twelfths/twelfths/grid/HourSet"), accessFlags := 25, slot := 0, constantValue := 0 }, { name := "firsts", type := (.array .long), accessFlags := 18, slot := 0, constantValue := 0 }, { name := "ends", type := (.array .long), accessFlags := 18, slot := 1, constantValue := 0 }]
  methods := #[k7m0, k7m1]
  instanceTypes := #[(.array .long), (.array .long)]
  staticTypes := #[(.object "com/example/twelfths/twelfths/grid/HourSet")]
  resolved := Array.replicate 45 none
  statics := none }

def pool8 : Array CpInfo := pool [(1, .class_ 2), (0, u "java/lang/Cloneable"), (0, .class_ 4), (0, u "java/lang/Object")] 2

/-- java/lang/Cloneable -/
def k8 : Class := { plain "java/lang/Cloneable" (some 0) with
  accessFlags := 1537
  interfaces := #[]
  cf := some (fileOf pool8 1 #[] #[] 1537 3 #[] #[])
  fields := #[]
  methods := #[]
  instanceTypes := #[]
  staticTypes := #[]
  resolved := Array.replicate 7 none
  statics := none }

def pool9 : Array CpInfo := pool [(1, u "java/io/Serializable"), (0, .class_ 1), (0, u "java/lang/Object"), (0, .class_ 3)] 3

/-- java/io/Serializable -/
def k9 : Class := { plain "java/io/Serializable" (some 0) with
  accessFlags := 1537
  interfaces := #[]
  cf := some (fileOf pool9 2 #[] #[] 1537 4 #[] #[])
  fields := #[]
  methods := #[]
  instanceTypes := #[]
  staticTypes := #[]
  resolved := Array.replicate 8 none
  statics := none }

/-- the primitive byte -/
def k10 : Class := { plain "byte" none with kind := .primitive 'B', accessFlags := 0x411 }
/-- [B -/
def k11 : Class := { plain "[B" (some 0) with kind := .array 10 .byte, interfaces := #[8, 9], accessFlags := 1041 }

/-- the primitive int -/
def k12 : Class := { plain "int" none with kind := .primitive 'I', accessFlags := 0x411 }
/-- [I -/
def k13 : Class := { plain "[I" (some 0) with kind := .array 12 .int, interfaces := #[8, 9], accessFlags := 1041 }

/-- the primitive long -/
def k14 : Class := { plain "long" none with kind := .primitive 'J', accessFlags := 0x411 }
/-- [J -/
def k15 : Class := { plain "[J" (some 0) with kind := .array 14 .long, interfaces := #[8, 9], accessFlags := 1041 }

def heap : Heap := #[]
def classes : Array Class := #[k0, k1, k2, k3, k4, k5, k6, k7, k8, k9, k10, k11, k12, k13, k14, k15]
def interned : List (Array UInt16 × Addr) := []
def slotsUsed : Nat := 0
def theMethod : MethodId := ⟨1, 2⟩
def args0 : Array Value := #[.long 1, .long 5, .long 3, .long 9, .long 4]
def aboutOver (below : List Frame) : State where
  vm := { classes := classes, interned := interned.toArray }
  heap := heap
  slotsUsed := slotsUsed
  threads := #[{ frames := .invoking theMethod args0 :: below }]
def below0 : List Frame := [.native { method := ⟨0, 0⟩, args := #[] }]
def about1 : State := aboutOver below0
def p0 : Program := .bare "" "" ""
def e0 : Env := launch0.env 0 0 0
theorem w_frames : about1.frames = Frame.invoking theMethod args0 :: below0 := rfl
set_option maxRecDepth 65536 in
theorem w_args : argsFit about1.vm theMethod args0 = true := by decide +kernel
set_option maxRecDepth 65536 in
theorem w_heap : heapFits about1 = true := by decide +kernel
set_option maxRecDepth 65536 in
theorem w_runnable : about1.curStatus? = some .runnable := by decide +kernel
set_option maxRecDepth 65536 in
theorem w_alone : about1.alone = true := by decide +kernel
set_option maxRecDepth 65536 in
theorem w_named : about1.methodNamed? x = some theMethod := by decide +kernel
set_option maxRecDepth 65536 in
theorem w_hears : about1.hears theMethod below0 = true := by decide +kernel
set_option maxRecDepth 65536 in
theorem w_ripe : about1.ripe theMethod args0 below0 = true := by decide +kernel
theorem w_running : about1.status = .running := rfl
set_option maxRecDepth 65536 in
theorem w_room : about1.hasRoom e0.platform room_1 = true :=
  launch0.hasRoom_least _ room_1 (by decide +kernel) (by decide +kernel) (by decide +kernel) (by decide +kernel) (by decide +kernel) (by decide +kernel)
theorem allAtoms_all (ts : List Jvm.Cond) (a : Array Jvm.Value) (st : Jvm.State) : (allAtoms ts).before a st = ts.all (fun c => c.before a st) := by
  induction ts with
  | nil => rfl
  | cons c t ih =>
    show (Jvm.Cond.and c (allAtoms t)).before a st = _
    rw [Jvm.Cond.before_and, ih, List.all_cons]
def words1 : List Jvm.Cond := Jvm.Cond.code x code maxLocals ret :: tables_1
/-- a 'code' word, met by the world's own term for the bytes: nothing is compared byte by byte -/
theorem code_word {y : MethodName} {bytes : ByteArray} {mx : Nat} {rt : Option FieldType} {a : Array Value} {s : State} {m : MethodId} {meth : Method} {c : Code} (h1 : s.methodNamed? y = some m) (h2 : s.vm.method? m = some meth) (h3 : meth.code = some c) (h4 : c.code = bytes)
    (h5 : (c.maxLocals == mx && c.exceptionTable.isEmpty && decide (c.maxStack ≤ mostOperands) && decide (meth.sig.returnType = rt) && !meth.locks && decide (parseMethodDescriptor y.desc = some meth.sig)) = true) : (Jvm.Cond.code y bytes mx rt).before a s = true := by
  simp only [Bool.and_eq_true, beq_iff_eq, Bool.not_eq_true', decide_eq_true_eq] at h5
  obtain ⟨⟨⟨⟨⟨g1, g2⟩, g3⟩, g4⟩, g5⟩, g6⟩ := h5
  simp [Cond.before, Cond.holds, Cond.value, h1, h2, h3, h4, g1, g2, g3, g4, g5, g6]
def isCode : Jvm.Cond → Bool
  | .code _ _ _ _ => true
  | _ => false
theorem all_split {L : List Jvm.Cond} {P : Jvm.Cond → Bool} (h1 : L.all (fun c => isCode c || P c) = true) (h2 : ∀ c ∈ L.filter isCode, P c = true) : L.all P = true := by
  refine List.all_eq_true.mpr fun c hc => ?_
  have h := List.all_eq_true.mp h1 c hc
  rcases Bool.eq_false_or_eq_true (isCode c) with hi | hi
  · exact h2 c (List.mem_filter.mpr ⟨hc, hi⟩)
  · simpa [hi] using h
set_option maxRecDepth 65536 in
theorem w_c0 : (Jvm.Cond.code x code maxLocals ret).before args0 about1 = true := code_word (m := ⟨1, 2⟩) (meth := k1m2) (c := k1c2) (by decide +kernel) rfl rfl rfl (by decide +kernel)
set_option maxRecDepth 65536 in
theorem w_c1 : (Jvm.Cond.code ({ cls := "java/lang/Math", name := "min", desc := "(JJ)J" } : Jvm.MethodName) jdk_29_method_70_code (4 : Nat) (Option.some Jvm.ClassFile.FieldType.long)).before args0 about1 = true := code_word (m := ⟨2, 3⟩) (meth := k2m3) (c := k2c3) (by decide +kernel) rfl rfl rfl (by decide +kernel)
set_option maxRecDepth 65536 in
theorem w_c2 : (Jvm.Cond.code ({ cls := "java/lang/Math", name := "max", desc := "(JJ)J" } : Jvm.MethodName) jdk_29_method_66_code (4 : Nat) (Option.some Jvm.ClassFile.FieldType.long)).before args0 about1 = true := code_word (m := ⟨2, 1⟩) (meth := k2m1) (c := k2c1) (by decide +kernel) rfl rfl rfl (by decide +kernel)
set_option maxRecDepth 65536 in
theorem w_c3 : (Jvm.Cond.code ({ cls := "com/example/twelfths/twelfths/grid/HourSet$Builder", name := "<init>", desc := "()V" } : Jvm.MethodName) prog_16_method_1_code (1 : Nat) (Option.none : Option Jvm.ClassFile.FieldType)).before args0 about1 = true := code_word (m := ⟨3, 0⟩) (meth := k3m0) (c := k3c0) (by decide +kernel) rfl rfl rfl (by decide +kernel)
set_option maxRecDepth 65536 in
theorem w_c4 : (Jvm.Cond.code ({ cls := "java/lang/Object", name := "<init>", desc := "()V" } : Jvm.MethodName) object_method_1_code (1 : Nat) (Option.none : Option Jvm.ClassFile.FieldType)).before args0 about1 = true := code_word (m := ⟨0, 0⟩) (meth := k0m0) (c := k0c0) (by decide +kernel) rfl rfl rfl (by decide +kernel)
set_option maxRecDepth 65536 in
theorem w_c5 : (Jvm.Cond.code ({ cls := "com/example/twelfths/twelfths/grid/HourSet$Builder", name := "add", desc := "(JJ)Lcom/example/twelfths/twelfths/grid/HourSet$Builder;" } : Jvm.MethodName) prog_16_method_2_code (5 : Nat) (Option.some (Jvm.ClassFile.FieldType.object "com/example/twelfths/twelfths/grid/HourSet$Builder"))).before args0 about1 = true := code_word (m := ⟨3, 1⟩) (meth := k3m1) (c := k3c1) (by decide +kernel) rfl rfl rfl (by decide +kernel)
set_option maxRecDepth 65536 in
theorem w_c6 : (Jvm.Cond.code ({ cls := "com/example/twelfths/twelfths/grid/HourSet$Builder", name := "build", desc := "()Lcom/example/twelfths/twelfths/grid/HourSet;" } : Jvm.MethodName) prog_16_method_3_code (9 : Nat) (Option.some (Jvm.ClassFile.FieldType.object "com/example/twelfths/twelfths/grid/HourSet"))).before args0 about1 = true := code_word (m := ⟨3, 2⟩) (meth := k3m2) (c := k3c2) (by decide +kernel) rfl rfl rfl (by decide +kernel)
set_option maxRecDepth 65536 in
theorem w_c7 : (Jvm.Cond.code ({ cls := "java/util/Arrays", name := "copyOf", desc := "([JI)[J" } : Jvm.MethodName) jdk_65_method_124_code (3 : Nat) (Option.some (Jvm.ClassFile.FieldType.array Jvm.ClassFile.FieldType.long))).before args0 about1 = true := code_word (m := ⟨4, 4⟩) (meth := k4m4) (c := k4c4) (by decide +kernel) rfl rfl rfl (by decide +kernel)
set_option maxRecDepth 65536 in
theorem w_c8 : (Jvm.Cond.code ({ cls := "java/lang/Math", name := "min", desc := "(II)I" } : Jvm.MethodName) jdk_29_method_69_code (2 : Nat) (Option.some Jvm.ClassFile.FieldType.int)).before args0 about1 = true := code_word (m := ⟨2, 2⟩) (meth := k2m2) (c := k2c2) (by decide +kernel) rfl rfl rfl (by decide +kernel)
set_option maxRecDepth 65536 in
theorem w_c9 : (Jvm.Cond.code ({ cls := "java/util/Arrays", name := "sort", desc := "([J)V" } : Jvm.MethodName) jdk_65_method_4_code (1 : Nat) (Option.none : Option Jvm.ClassFile.FieldType)).before args0 about1 = true := code_word (m := ⟨4, 1⟩) (meth := k4m1) (c := k4c1) (by decide +kernel) rfl rfl rfl (by decide +kernel)
set_option maxRecDepth 65536 in
theorem w_c10 : (Jvm.Cond.code ({ cls := "java/util/DualPivotQuicksort", name := "sort", desc := "([JIII)V" } : Jvm.MethodName) jdk_2529_method_12_code (7 : Nat) (Option.none : Option Jvm.ClassFile.FieldType)).before args0 about1 = true := code_word (m := ⟨6, 1⟩) (meth := k6m1) (c := k6c1) (by decide +kernel) rfl rfl rfl (by decide +kernel)
set_option maxRecDepth 65536 in
theorem w_c11 : (Jvm.Cond.code ({ cls := "java/util/DualPivotQuicksort", name := "sort", desc := "(Ljava/util/DualPivotQuicksort$Sorter;[JIII)V" } : Jvm.MethodName) jdk_2529_method_13_code (25 : Nat) (Option.none : Option Jvm.ClassFile.FieldType)).before args0 about1 = true := code_word (m := ⟨6, 2⟩) (meth := k6m2) (c := k6c2) (by decide +kernel) rfl rfl rfl (by decide +kernel)
set_option maxRecDepth 65536 in
theorem w_c12 : (Jvm.Cond.code ({ cls := "java/util/DualPivotQuicksort", name := "insertionSort", desc := "([JII)V" } : Jvm.MethodName) jdk_2529_method_15_code (7 : Nat) (Option.none : Option Jvm.ClassFile.FieldType)).before args0 about1 = true := code_word (m := ⟨6, 3⟩) (meth := k6m3) (c := k6c3) (by decide +kernel) rfl rfl rfl (by decide +kernel)
set_option maxRecDepth 65536 in
theorem w_c13 : (Jvm.Cond.code ({ cls := "com/example/twelfths/twelfths/grid/HourSet", name := "<init>", desc := "([J[J)V" } : Jvm.MethodName) prog_15_method_1_code (3 : Nat) (Option.none : Option Jvm.ClassFile.FieldType)).before args0 about1 = true := code_word (m := ⟨7, 0⟩) (meth := k7m0) (c := k7c0) (by decide +kernel) rfl rfl rfl (by decide +kernel)
set_option maxRecDepth 65536 in
theorem w_c14 : (Jvm.Cond.code ({ cls := "com/example/twelfths/twelfths/grid/BuilderAddPinLaw", name := "in", desc := "(JJJ)Z" } : Jvm.MethodName) method_2_code (6 : Nat) (Option.some Jvm.ClassFile.FieldType.boolean)).before args0 about1 = true := code_word (m := ⟨1, 1⟩) (meth := k1m1) (c := k1c1) (by decide +kernel) rfl rfl rfl (by decide +kernel)
set_option maxRecDepth 65536 in
theorem w_c15 : (Jvm.Cond.code ({ cls := "com/example/twelfths/twelfths/grid/HourSet", name := "contains", desc := "(J)Z" } : Jvm.MethodName) prog_15_method_2_code (5 : Nat) (Option.some Jvm.ClassFile.FieldType.boolean)).before args0 about1 = true := code_word (m := ⟨7, 1⟩) (meth := k7m1) (c := k7c1) (by decide +kernel) rfl rfl rfl (by decide +kernel)
set_option maxRecDepth 65536 in
theorem w_c16 : (Jvm.Cond.code ({ cls := "java/util/Arrays", name := "binarySearch", desc := "([JJ)I" } : Jvm.MethodName) jdk_65_method_54_code (3 : Nat) (Option.some Jvm.ClassFile.FieldType.int)).before args0 about1 = true := code_word (m := ⟨4, 2⟩) (meth := k4m2) (c := k4c2) (by decide +kernel) rfl rfl rfl (by decide +kernel)
set_option maxRecDepth 65536 in
theorem w_c17 : (Jvm.Cond.code ({ cls := "java/util/Arrays", name := "binarySearch0", desc := "([JIIJ)I" } : Jvm.MethodName) jdk_65_method_56_code (10 : Nat) (Option.some Jvm.ClassFile.FieldType.int)).before args0 about1 = true := code_word (m := ⟨4, 3⟩) (meth := k4m3) (c := k4c3) (by decide +kernel) rfl rfl rfl (by decide +kernel)
def codes1 : List Jvm.Cond := [Jvm.Cond.code x code maxLocals ret, Jvm.Cond.code ({ cls := "java/lang/Math", name := "min", desc := "(JJ)J" } : Jvm.MethodName) jdk_29_method_70_code (4 : Nat) (Option.some Jvm.ClassFile.FieldType.long), Jvm.Cond.code ({ cls := "java/lang/Math", name := "max", desc := "(JJ)J" } : Jvm.MethodName) jdk_29_method_66_code (4 : Nat) (Option.some Jvm.ClassFile.FieldType.long), Jvm.Cond.code ({ cls := "com/example/twelfths/twelfths/grid/HourSet$Builder", name := "<init>", desc := "()V" } : Jvm.MethodName) prog_16_method_1_code (1 : Nat) (Option.none : Option Jvm.ClassFile.FieldType), Jvm.Cond.code ({ cls := "java/lang/Object", name := "<init>", desc := "()V" } : Jvm.MethodName) object_method_1_code (1 : Nat) (Option.none : Option Jvm.ClassFile.FieldType), Jvm.Cond.code ({ cls := "com/example/twelfths/twelfths/grid/HourSet$Builder", name := "add", desc := "(JJ)Lcom/example/twelfths/twelfths/grid/HourSet$Builder;" } : Jvm.MethodName) prog_16_method_2_code (5 : Nat) (Option.some (Jvm.ClassFile.FieldType.object "com/example/twelfths/twelfths/grid/HourSet$Builder")), Jvm.Cond.code ({ cls := "com/example/twelfths/twelfths/grid/HourSet$Builder", name := "build", desc := "()Lcom/example/twelfths/twelfths/grid/HourSet;" } : Jvm.MethodName) prog_16_method_3_code (9 : Nat) (Option.some (Jvm.ClassFile.FieldType.object "com/example/twelfths/twelfths/grid/HourSet")), Jvm.Cond.code ({ cls := "java/util/Arrays", name := "copyOf", desc := "([JI)[J" } : Jvm.MethodName) jdk_65_method_124_code (3 : Nat) (Option.some (Jvm.ClassFile.FieldType.array Jvm.ClassFile.FieldType.long)), Jvm.Cond.code ({ cls := "java/lang/Math", name := "min", desc := "(II)I" } : Jvm.MethodName) jdk_29_method_69_code (2 : Nat) (Option.some Jvm.ClassFile.FieldType.int), Jvm.Cond.code ({ cls := "java/util/Arrays", name := "sort", desc := "([J)V" } : Jvm.MethodName) jdk_65_method_4_code (1 : Nat) (Option.none : Option Jvm.ClassFile.FieldType), Jvm.Cond.code ({ cls := "java/util/DualPivotQuicksort", name := "sort", desc := "([JIII)V" } : Jvm.MethodName) jdk_2529_method_12_code (7 : Nat) (Option.none : Option Jvm.ClassFile.FieldType), Jvm.Cond.code ({ cls := "java/util/DualPivotQuicksort", name := "sort", desc := "(Ljava/util/DualPivotQuicksort$Sorter;[JIII)V" } : Jvm.MethodName) jdk_2529_method_13_code (25 : Nat) (Option.none : Option Jvm.ClassFile.FieldType), Jvm.Cond.code ({ cls := "java/util/DualPivotQuicksort", name := "insertionSort", desc := "([JII)V" } : Jvm.MethodName) jdk_2529_method_15_code (7 : Nat) (Option.none : Option Jvm.ClassFile.FieldType), Jvm.Cond.code ({ cls := "com/example/twelfths/twelfths/grid/HourSet", name := "<init>", desc := "([J[J)V" } : Jvm.MethodName) prog_15_method_1_code (3 : Nat) (Option.none : Option Jvm.ClassFile.FieldType), Jvm.Cond.code ({ cls := "com/example/twelfths/twelfths/grid/BuilderAddPinLaw", name := "in", desc := "(JJJ)Z" } : Jvm.MethodName) method_2_code (6 : Nat) (Option.some Jvm.ClassFile.FieldType.boolean), Jvm.Cond.code ({ cls := "com/example/twelfths/twelfths/grid/HourSet", name := "contains", desc := "(J)Z" } : Jvm.MethodName) prog_15_method_2_code (5 : Nat) (Option.some Jvm.ClassFile.FieldType.boolean), Jvm.Cond.code ({ cls := "java/util/Arrays", name := "binarySearch", desc := "([JJ)I" } : Jvm.MethodName) jdk_65_method_54_code (3 : Nat) (Option.some Jvm.ClassFile.FieldType.int), Jvm.Cond.code ({ cls := "java/util/Arrays", name := "binarySearch0", desc := "([JIIJ)I" } : Jvm.MethodName) jdk_65_method_56_code (10 : Nat) (Option.some Jvm.ClassFile.FieldType.int)]
set_option maxRecDepth 65536 in
theorem codes_eq : words1.filter isCode = codes1 := rfl
theorem w_codes : ∀ c ∈ words1.filter isCode, c.before args0 about1 = true := by
  rw [codes_eq]
  intro c hc
  simp only [codes1, List.mem_cons, List.not_mem_nil, or_false] at hc
  rcases hc with rfl | rfl | rfl | rfl | rfl | rfl | rfl | rfl | rfl | rfl | rfl | rfl | rfl | rfl | rfl | rfl | rfl | rfl
  · exact w_c0
  · exact w_c1
  · exact w_c2
  · exact w_c3
  · exact w_c4
  · exact w_c5
  · exact w_c6
  · exact w_c7
  · exact w_c8
  · exact w_c9
  · exact w_c10
  · exact w_c11
  · exact w_c12
  · exact w_c13
  · exact w_c14
  · exact w_c15
  · exact w_c16
  · exact w_c17
set_option maxRecDepth 65536 in
theorem w_t1 : (words1.take 24).all (fun c => isCode c || c.before args0 about1) = true := by decide +kernel
set_option maxRecDepth 65536 in
theorem w_t2 : ((words1.drop 24).take 24).all (fun c => isCode c || c.before args0 about1) = true := by decide +kernel
set_option maxRecDepth 65536 in
theorem w_t3 : (((words1.drop 24).drop 24).take 24).all (fun c => isCode c || c.before args0 about1) = true := by decide +kernel
set_option maxRecDepth 65536 in
theorem w_t4 : (((words1.drop 24).drop 24).drop 24).all (fun c => isCode c || c.before args0 about1) = true := by decide +kernel
theorem w_tables : (allAtoms (Jvm.Cond.code x code maxLocals ret :: tables_1)).before args0 about1 = true := by
  rw [allAtoms_all]
  show words1.all (fun c => c.before args0 about1) = true
  refine all_split ?_ w_codes
  rw [← List.take_append_drop 24 words1, List.all_append, w_t1, ← List.take_append_drop 24 (words1.drop 24), List.all_append, w_t2, ← List.take_append_drop 24 ((words1.drop 24).drop 24), List.all_append, w_t3, w_t4]
  rfl
set_option maxRecDepth 65536 in
theorem w_case : (Jvm.Cond.and given_1 narrow_1).before args0 about1 = true := by decide +kernel
theorem w_applies : (headSpec (Jvm.Cond.code x code maxLocals ret :: tables_1) room_1).applies x e0.platform about1 = true :=
  (Spec.applies_iff w_frames).mpr ⟨w_running, w_runnable, w_alone, w_named, w_hears, w_ripe, w_room, w_tables⟩
theorem atStart : AtStart classFile x code maxLocals ret World_1 tables_1 room_1 Calls_1 rest_1 Pre_1 launch0 p0 e0 about1 theMethod args0 below0 :=
  ⟨lists_1, trivial, launch0.admits_env _ _ _, launch0.least_env, fairChoices_fair.cas, fairChoices_fair.clock, w_frames, w_args, w_heap, w_applies, trivial, trivial, w_case⟩
end start1
theorem witness_1 : WitnessClaimed_1 := ⟨start1.p0, start1.e0, start1.about1, start1.theMethod, start1.args0, start1.below0, start1.atStart⟩
end Jvm.Pilot.@@N@@
