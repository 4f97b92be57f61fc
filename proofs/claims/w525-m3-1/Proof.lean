import JvmDerived
import JvmDerived.Pilot.@@N@@Statement
import JvmDerived.Pilot.@@N@@Code
set_option linter.unusedVariables false
set_option linter.unusedSimpArgs false
set_option maxHeartbeats 40000000
namespace Jvm.Pilot.@@N@@
open Jvm Jvm.ClassFile Sem Op Lib Jvm.Free Jvm.Stand Jvm.LawKit Jvm.RoadKit Bundle Jvm.Pilot.@@N@@.Jvm.D
/-! ## own kit: a small logic of walks -/
/-- the walk's fixed surroundings -/
def Cx (p : Program) (s : State) (m : MethodId) (meth : Method) (c : Code) (Z : State) (own : String) (bytes : ByteArray) (maxL : Nat) (ret : Option FieldType) (nm : String) : Prop :=
  p.tables.exec = Jvm.exec ∧ c.code = bytes ∧ c.maxLocals = maxL ∧ Z.Warmed39 s.vm ∧ s.vm.findClass own = some m.cls ∧ meth.sig.returnType = ret ∧ meth.locks = false ∧ meth.name = nm
/-- from every state that stands at heap h with frame g, having made at most so many cells and slots, the walk comes to a good end -/
def AtW (p : Program) (l : Launch) (e : Env) (R : Room) (s : State) (m : MethodId) (args : Array Value) (below : List Frame) (meth : Method) (c : Code) (n0 : Nat) (Q : Option Value → Heap → Prop) (h : Heap) (cells slots : Nat) (g : JFrame) : Prop :=
  ∀ (T : State) (locs : List Loc) (k n : Nat), Stand p l e R s m args below meth c T locs k n → k ≤ cells → n ≤ slots → T.heap = h → Fr n0 locs →
    ∃ t o, Steps p.tables e below (T.setTop g) t ∧ t.status = .running ∧ Ended t below o ∧ ∃ v L, o = .returned v ∧ (Fr n0 L ∧ Q v t.heap) ∧ FrameEnd s o t L R.cells R.slots
/-- a body's contract: called with 'as' at heap h0 it returns some v at some h with Q v h, and writes nothing below n0 -/
def Ct (ws : List Jvm.Cond) (l : Launch) (Z : State) (n0 : Nat) (y : MethodName) (bytes : ByteArray) (maxL : Nat) (ret : Option FieldType) (rm : Room) (as : Array Value) (h0 : Heap) (Q : Option Value → Heap → Prop) : Prop :=
  MetFree l y (head1 (Jvm.Cond.code y bytes maxL ret :: ws) rm) (fun a U => a = as ∧ Z.Warmed39 U.vm ∧ U.heap = h0) (fun _ _ _ _ _ => True)
    (fun _ U o U' => ∃ v L, o = .returned v ∧ (Fr n0 L ∧ Q v U'.heap) ∧ FrameEnd U o U' L rm.cells rm.slots)
theorem own_leb {a b : Nat} (h : Nat.ble a b = true) : a ≤ b := Nat.le_of_ble_eq_true h
theorem own_ltb {a b : Nat} (h : Nat.ble (a + 1) b = true) : a < b := Nat.le_of_ble_eq_true h
/-- the class is found and is no interface -/
def NI (s : State) (C : String) : Prop := ∃ c k, s.vm.findClass C = some c ∧ s.vm.classes[c]? = some k ∧ k.isInterface = false
theorem NI.of_inst {s : State} {args : Array Value} {C : String} {n : Nat} (w : (Jvm.Cond.instantiable C n).before args s = true) : NI s C := by
  obtain ⟨c, k, hc, hk, -, h, -⟩ := Cond.instantiable_spec w
  exact ⟨c, k, hc, hk, (Bool.or_eq_false_iff.mp h).1⟩
theorem NI.of_sel {s : State} {args : Array Value} {C : String} {y z : MethodName} (w : (Jvm.Cond.selects C y z).before args s = true) : NI s z.cls := by
  obtain ⟨c, r, m, -, -, hn, -, k, hk, hi⟩ := Cond.selects_spec w
  exact ⟨m.cls, k, findClass_of_methodNamed hn, hk, hi⟩
theorem NI.nf {s : State} {y : MethodName} (w : NI s y.cls) : NotFace s y := fun r0 h0 => by
  obtain ⟨c, k, hc, hk, hi⟩ := w
  cases (findClass_of_methodNamed h0).symm.trans hc
  exact ⟨k, hk, hi⟩
section Wk
variable {p : Program} {l : Launch} {e : Env} {R : Room} {s : State} {m : MethodId} {args : Array Value} {below : List Frame} {meth : Method} {c : Code} {n0 : Nat} {Q : Option Value → Heap → Prop} {h : Heap} {cells slots : Nat} {Z : State} {own : String} {bytes : ByteArray} {maxL : Nat} {ret : Option FieldType} {nm : String} {a0 : Array Value} {pc q : Nat} {L L' : Array Slot} {S : List Value}
theorem Ct.intro {ws : List Jvm.Cond} {y : MethodName} {rm : Room} {as : Array Value} (hp : plainFor y = true)
    (k : ∀ p e s m below meth c, Cx p s m meth c Z y.cls bytes maxL ret y.name → AtW p l e rm s m as below meth c n0 Q h 0 0 (entryFrame m as maxL)) : Ct ws l Z n0 y bytes maxL ret rm as h Q := by
  refine MetFree.of_bodySF hp hisR ?_
  intro p e s m args below meth c s₁ Bd hml0 hP hK
  obtain ⟨rfl, hZ, hh⟩ := hP
  have X0 := Stand.of_body Bd
  refine k p e s m below meth c ⟨Bd.exec, Bd.bytes, hml0, hZ, findClass_of_methodNamed Bd.named, Bd.returns, Bd.notSynchronized, (name_of_methodNamed Bd.named Bd.method).1⟩ s₁ [] 0 0 X0 (Nat.le_refl _) (Nat.le_refl _) ?_ (Fr.nil n0)
  rw [← hh, Bd.state]; rfl
theorem AtW.mono {g : JFrame} {cells' slots' : Nat} (K : AtW p l e R s m args below meth c n0 Q h cells' slots' g) (h1 : cells ≤ cells') (h2 : slots ≤ slots') : AtW p l e R s m args below meth c n0 Q h cells slots g :=
  fun T locs k n X hk hn eT N => K T locs k n X (Nat.le_trans hk h1) (Nat.le_trans hn h2) eT N
theorem AtW.go {g g' : JFrame} (K : AtW p l e R s m args below meth c n0 Q h cells slots g') (st : ∀ T, At T m c below → ∀ t, Steps p.tables e below (T.setTop g') t → Steps p.tables e below (T.setTop g) t) : AtW p l e R s m args below meth c n0 Q h cells slots g :=
  fun T locs k n X hk hn eT N => by
    obtain ⟨t, o, r1, r⟩ := K T locs k n X hk hn eT N
    exact ⟨t, o, st T X.here t r1, r⟩
theorem AtW.goX {g g' : JFrame} (K : AtW p l e R s m args below meth c n0 Q h cells slots g') (st : ∀ T locs k n, Stand p l e R s m args below meth c T locs k n → T.heap = h → ∀ t, Steps p.tables e below (T.setTop g') t → Steps p.tables e below (T.setTop g) t) : AtW p l e R s m args below meth c n0 Q h cells slots g :=
  fun T locs k n X hk hn eT N => by
    obtain ⟨t, o, r1, r⟩ := K T locs k n X hk hn eT N
    exact ⟨t, o, st T locs k n X eT t r1, r⟩
theorem AtW.cast {g g' : JFrame} (K : AtW p l e R s m args below meth c n0 Q h cells slots g') (q : g = g') : AtW p l e R s m args below meth c n0 Q h cells slots g := by rw [q]; exact K

theorem w_iload (C : Cx p s m meth c Z own bytes maxL ret nm) {k : Nat} {v : Int32} (hl : L[k]? = some (.val (.int v))) (hd : decode bytes pc = .ok (.iload k, 2)) (hq : pc + 2 = q) (K : AtW p l e R s m args below meth c n0 Q h cells slots (mkF m q L (.int v :: S))) : AtW p l e R s m args below meth c n0 Q h cells slots (mkF m pc L S) := by
  subst hq
  exact K.go fun T hA t st => XS.iload hA C.1 rfl (hb C.2.1 hd) hl st
theorem w_iloadN (C : Cx p s m meth c Z own bytes maxL ret nm) {k : Fin 4} {v : Int32} (hl : L[k.val]? = some (.val (.int v))) (hd : decode bytes pc = .ok (.iload_n k, 1)) (hq : pc + 1 = q) (K : AtW p l e R s m args below meth c n0 Q h cells slots (mkF m q L (.int v :: S))) : AtW p l e R s m args below meth c n0 Q h cells slots (mkF m pc L S) := by
  subst hq
  exact K.go fun T hA t st => XS.iloadN hA C.1 rfl (hb C.2.1 hd) hl st
theorem w_istore (C : Cx p s m meth c Z own bytes maxL ret nm) {k : Nat} {v : Int32} (hl : storeLocals L k (.int v) = some L') (hd : decode bytes pc = .ok (.istore k, 2)) (hq : pc + 2 = q) (K : AtW p l e R s m args below meth c n0 Q h cells slots (mkF m q L' S)) : AtW p l e R s m args below meth c n0 Q h cells slots (mkF m pc L (.int v :: S)) := by
  subst hq
  exact K.go fun T hA t st => XS.istore hA C.1 rfl (hb C.2.1 hd) rfl hl st
theorem w_istoreN (C : Cx p s m meth c Z own bytes maxL ret nm) {k : Fin 4} {v : Int32} (hl : storeLocals L k.val (.int v) = some L') (hd : decode bytes pc = .ok (.istore_n k, 1)) (hq : pc + 1 = q) (K : AtW p l e R s m args below meth c n0 Q h cells slots (mkF m q L' S)) : AtW p l e R s m args below meth c n0 Q h cells slots (mkF m pc L (.int v :: S)) := by
  subst hq
  exact K.go fun T hA t st => XS.istoreN hA C.1 rfl (hb C.2.1 hd) rfl hl st
theorem w_lload (C : Cx p s m meth c Z own bytes maxL ret nm) {k : Nat} {v : Int64} (hl : L[k]? = some (.val (.long v))) (hd : decode bytes pc = .ok (.lload k, 2)) (hq : pc + 2 = q) (K : AtW p l e R s m args below meth c n0 Q h cells slots (mkF m q L (.long v :: S))) : AtW p l e R s m args below meth c n0 Q h cells slots (mkF m pc L S) := by
  subst hq
  exact K.go fun T hA t st => XS.lload hA C.1 rfl (hb C.2.1 hd) hl st
theorem w_lloadN (C : Cx p s m meth c Z own bytes maxL ret nm) {k : Fin 4} {v : Int64} (hl : L[k.val]? = some (.val (.long v))) (hd : decode bytes pc = .ok (.lload_n k, 1)) (hq : pc + 1 = q) (K : AtW p l e R s m args below meth c n0 Q h cells slots (mkF m q L (.long v :: S))) : AtW p l e R s m args below meth c n0 Q h cells slots (mkF m pc L S) := by
  subst hq
  exact K.go fun T hA t st => XS.lloadN hA C.1 rfl (hb C.2.1 hd) hl st
theorem w_lstore (C : Cx p s m meth c Z own bytes maxL ret nm) {k : Nat} {v : Int64} (hl : storeLocals L k (.long v) = some L') (hd : decode bytes pc = .ok (.lstore k, 2)) (hq : pc + 2 = q) (K : AtW p l e R s m args below meth c n0 Q h cells slots (mkF m q L' S)) : AtW p l e R s m args below meth c n0 Q h cells slots (mkF m pc L (.long v :: S)) := by
  subst hq
  exact K.go fun T hA t st => XS.lstore hA C.1 rfl (hb C.2.1 hd) rfl hl st
theorem w_lstoreN (C : Cx p s m meth c Z own bytes maxL ret nm) {k : Fin 4} {v : Int64} (hl : storeLocals L k.val (.long v) = some L') (hd : decode bytes pc = .ok (.lstore_n k, 1)) (hq : pc + 1 = q) (K : AtW p l e R s m args below meth c n0 Q h cells slots (mkF m q L' S)) : AtW p l e R s m args below meth c n0 Q h cells slots (mkF m pc L (.long v :: S)) := by
  subst hq
  exact K.go fun T hA t st => XS.lstoreN hA C.1 rfl (hb C.2.1 hd) rfl hl st
theorem w_aload (C : Cx p s m meth c Z own bytes maxL ret nm) {k : Nat} {v : Value} (hl : L[k]? = some (.val v)) (hv : v.isRef = true) (hd : decode bytes pc = .ok (.aload k, 2)) (hq : pc + 2 = q) (K : AtW p l e R s m args below meth c n0 Q h cells slots (mkF m q L (v :: S))) : AtW p l e R s m args below meth c n0 Q h cells slots (mkF m pc L S) := by
  subst hq
  exact K.go fun T hA t st => XS.aload hA C.1 rfl (hb C.2.1 hd) hl hv st
theorem w_aloadN (C : Cx p s m meth c Z own bytes maxL ret nm) {k : Fin 4} {v : Value} (hl : L[k.val]? = some (.val v)) (hv : v.isRef = true) (hd : decode bytes pc = .ok (.aload_n k, 1)) (hq : pc + 1 = q) (K : AtW p l e R s m args below meth c n0 Q h cells slots (mkF m q L (v :: S))) : AtW p l e R s m args below meth c n0 Q h cells slots (mkF m pc L S) := by
  subst hq
  exact K.go fun T hA t st => XS.aloadN hA C.1 rfl (hb C.2.1 hd) hl hv st
theorem w_astore (C : Cx p s m meth c Z own bytes maxL ret nm) {k : Nat} {v : Value} (hv : v.isRef = true) (hl : storeLocals L k v = some L') (hd : decode bytes pc = .ok (.astore k, 2)) (hq : pc + 2 = q) (K : AtW p l e R s m args below meth c n0 Q h cells slots (mkF m q L' S)) : AtW p l e R s m args below meth c n0 Q h cells slots (mkF m pc L (v :: S)) := by
  subst hq
  exact K.go fun T hA t st => XS.astore hA C.1 rfl (hb C.2.1 hd) rfl hv hl st
theorem w_astoreN (C : Cx p s m meth c Z own bytes maxL ret nm) {k : Fin 4} {v : Value} (hv : v.isRef = true) (hl : storeLocals L k.val v = some L') (hd : decode bytes pc = .ok (.astore_n k, 1)) (hq : pc + 1 = q) (K : AtW p l e R s m args below meth c n0 Q h cells slots (mkF m q L' S)) : AtW p l e R s m args below meth c n0 Q h cells slots (mkF m pc L (v :: S)) := by
  subst hq
  exact K.go fun T hA t st => XS.astoreN hA C.1 rfl (hb C.2.1 hd) rfl hv hl st
theorem w_iconst (C : Cx p s m meth c Z own bytes maxL ret nm) {i : Int} {v : Int32} (hv : Int32.ofInt i = v) (hd : decode bytes pc = .ok (.iconst i, 1)) (hq : pc + 1 = q) (K : AtW p l e R s m args below meth c n0 Q h cells slots (mkF m q L (.int v :: S))) : AtW p l e R s m args below meth c n0 Q h cells slots (mkF m pc L S) := by
  subst hq
  exact K.go fun T hA t st => by subst hv; exact XS.iconst hA C.1 rfl (hb C.2.1 hd) st
theorem w_bipush (C : Cx p s m meth c Z own bytes maxL ret nm) {i : Int} {v : Int32} (hv : (Int8.ofInt i).toInt32 = v) (hd : decode bytes pc = .ok (.bipush i, 2)) (hq : pc + 2 = q) (K : AtW p l e R s m args below meth c n0 Q h cells slots (mkF m q L (.int v :: S))) : AtW p l e R s m args below meth c n0 Q h cells slots (mkF m pc L S) := by
  subst hq
  exact K.go fun T hA t st => by subst hv; exact XS.bipush hA C.1 rfl (hb C.2.1 hd) st
theorem w_sipush (C : Cx p s m meth c Z own bytes maxL ret nm) {i : Int} {v : Int32} (hv : (Int16.ofInt i).toInt32 = v) (hd : decode bytes pc = .ok (.sipush i, 3)) (hq : pc + 3 = q) (K : AtW p l e R s m args below meth c n0 Q h cells slots (mkF m q L (.int v :: S))) : AtW p l e R s m args below meth c n0 Q h cells slots (mkF m pc L S) := by
  subst hq
  exact K.go fun T hA t st => by subst hv; exact XS.sipush hA C.1 rfl (hb C.2.1 hd) st
theorem w_lconst (C : Cx p s m meth c Z own bytes maxL ret nm) {k : Fin 2} {v : Int64} (hv : Int64.ofNat k = v) (hd : decode bytes pc = .ok (.lconst k, 1)) (hq : pc + 1 = q) (K : AtW p l e R s m args below meth c n0 Q h cells slots (mkF m q L (.long v :: S))) : AtW p l e R s m args below meth c n0 Q h cells slots (mkF m pc L S) := by
  subst hq
  exact K.go fun T hA t st => by subst hv; exact XS.lconst hA C.1 rfl (hb C.2.1 hd) st
theorem w_aconst_null (C : Cx p s m meth c Z own bytes maxL ret nm)  (hd : decode bytes pc = .ok (.aconst_null, 1)) (hq : pc + 1 = q) (K : AtW p l e R s m args below meth c n0 Q h cells slots (mkF m q L (.null :: S))) : AtW p l e R s m args below meth c n0 Q h cells slots (mkF m pc L S) := by
  subst hq
  exact K.go fun T hA t st => XS.aconstNull hA C.1 rfl (hb C.2.1 hd) st
theorem w_iadd (C : Cx p s m meth c Z own bytes maxL ret nm) {x y z : Int32} (hz : x + y = z) (hd : decode bytes pc = .ok (.iadd, 1)) (hq : pc + 1 = q) (K : AtW p l e R s m args below meth c n0 Q h cells slots (mkF m q L (.int z :: S))) : AtW p l e R s m args below meth c n0 Q h cells slots (mkF m pc L (.int y :: .int x :: S)) := by
  subst hq
  exact K.go fun T hA t st => by subst hz; exact XS.iadd hA C.1 rfl (hb C.2.1 hd) rfl st
theorem w_isub (C : Cx p s m meth c Z own bytes maxL ret nm) {x y z : Int32} (hz : x - y = z) (hd : decode bytes pc = .ok (.isub, 1)) (hq : pc + 1 = q) (K : AtW p l e R s m args below meth c n0 Q h cells slots (mkF m q L (.int z :: S))) : AtW p l e R s m args below meth c n0 Q h cells slots (mkF m pc L (.int y :: .int x :: S)) := by
  subst hq
  exact K.go fun T hA t st => by subst hz; exact XS.isub hA C.1 rfl (hb C.2.1 hd) rfl st
theorem w_imul (C : Cx p s m meth c Z own bytes maxL ret nm) {x y z : Int32} (hz : x * y = z) (hd : decode bytes pc = .ok (.imul, 1)) (hq : pc + 1 = q) (K : AtW p l e R s m args below meth c n0 Q h cells slots (mkF m q L (.int z :: S))) : AtW p l e R s m args below meth c n0 Q h cells slots (mkF m pc L (.int y :: .int x :: S)) := by
  subst hq
  exact K.go fun T hA t st => by subst hz; exact XS.imul hA C.1 rfl (hb C.2.1 hd) rfl st
theorem w_iand (C : Cx p s m meth c Z own bytes maxL ret nm) {x y z : Int32} (hz : x &&& y = z) (hd : decode bytes pc = .ok (.iand, 1)) (hq : pc + 1 = q) (K : AtW p l e R s m args below meth c n0 Q h cells slots (mkF m q L (.int z :: S))) : AtW p l e R s m args below meth c n0 Q h cells slots (mkF m pc L (.int y :: .int x :: S)) := by
  subst hq
  exact K.go fun T hA t st => by subst hz; exact XS.iand hA C.1 rfl (hb C.2.1 hd) rfl st
theorem w_ior (C : Cx p s m meth c Z own bytes maxL ret nm) {x y z : Int32} (hz : x ||| y = z) (hd : decode bytes pc = .ok (.ior, 1)) (hq : pc + 1 = q) (K : AtW p l e R s m args below meth c n0 Q h cells slots (mkF m q L (.int z :: S))) : AtW p l e R s m args below meth c n0 Q h cells slots (mkF m pc L (.int y :: .int x :: S)) := by
  subst hq
  exact K.go fun T hA t st => by subst hz; exact XS.ior hA C.1 rfl (hb C.2.1 hd) rfl st
theorem w_ixor (C : Cx p s m meth c Z own bytes maxL ret nm) {x y z : Int32} (hz : x ^^^ y = z) (hd : decode bytes pc = .ok (.ixor, 1)) (hq : pc + 1 = q) (K : AtW p l e R s m args below meth c n0 Q h cells slots (mkF m q L (.int z :: S))) : AtW p l e R s m args below meth c n0 Q h cells slots (mkF m pc L (.int y :: .int x :: S)) := by
  subst hq
  exact K.go fun T hA t st => by subst hz; exact XS.ixor hA C.1 rfl (hb C.2.1 hd) rfl st
theorem w_ladd (C : Cx p s m meth c Z own bytes maxL ret nm) {x y z : Int64} (hz : x + y = z) (hd : decode bytes pc = .ok (.ladd, 1)) (hq : pc + 1 = q) (K : AtW p l e R s m args below meth c n0 Q h cells slots (mkF m q L (.long z :: S))) : AtW p l e R s m args below meth c n0 Q h cells slots (mkF m pc L (.long y :: .long x :: S)) := by
  subst hq
  exact K.go fun T hA t st => by subst hz; exact XS.ladd hA C.1 rfl (hb C.2.1 hd) rfl st
theorem w_lsub (C : Cx p s m meth c Z own bytes maxL ret nm) {x y z : Int64} (hz : x - y = z) (hd : decode bytes pc = .ok (.lsub, 1)) (hq : pc + 1 = q) (K : AtW p l e R s m args below meth c n0 Q h cells slots (mkF m q L (.long z :: S))) : AtW p l e R s m args below meth c n0 Q h cells slots (mkF m pc L (.long y :: .long x :: S)) := by
  subst hq
  exact K.go fun T hA t st => by subst hz; exact XS.lsub hA C.1 rfl (hb C.2.1 hd) rfl st
theorem w_lmul (C : Cx p s m meth c Z own bytes maxL ret nm) {x y z : Int64} (hz : x * y = z) (hd : decode bytes pc = .ok (.lmul, 1)) (hq : pc + 1 = q) (K : AtW p l e R s m args below meth c n0 Q h cells slots (mkF m q L (.long z :: S))) : AtW p l e R s m args below meth c n0 Q h cells slots (mkF m pc L (.long y :: .long x :: S)) := by
  subst hq
  exact K.go fun T hA t st => by subst hz; exact XS.lmul hA C.1 rfl (hb C.2.1 hd) rfl st
theorem w_land (C : Cx p s m meth c Z own bytes maxL ret nm) {x y z : Int64} (hz : x &&& y = z) (hd : decode bytes pc = .ok (.land, 1)) (hq : pc + 1 = q) (K : AtW p l e R s m args below meth c n0 Q h cells slots (mkF m q L (.long z :: S))) : AtW p l e R s m args below meth c n0 Q h cells slots (mkF m pc L (.long y :: .long x :: S)) := by
  subst hq
  exact K.go fun T hA t st => by subst hz; exact XS.land hA C.1 rfl (hb C.2.1 hd) rfl st
theorem w_lor (C : Cx p s m meth c Z own bytes maxL ret nm) {x y z : Int64} (hz : x ||| y = z) (hd : decode bytes pc = .ok (.lor, 1)) (hq : pc + 1 = q) (K : AtW p l e R s m args below meth c n0 Q h cells slots (mkF m q L (.long z :: S))) : AtW p l e R s m args below meth c n0 Q h cells slots (mkF m pc L (.long y :: .long x :: S)) := by
  subst hq
  exact K.go fun T hA t st => by subst hz; exact XS.lor hA C.1 rfl (hb C.2.1 hd) rfl st
theorem w_lxor (C : Cx p s m meth c Z own bytes maxL ret nm) {x y z : Int64} (hz : x ^^^ y = z) (hd : decode bytes pc = .ok (.lxor, 1)) (hq : pc + 1 = q) (K : AtW p l e R s m args below meth c n0 Q h cells slots (mkF m q L (.long z :: S))) : AtW p l e R s m args below meth c n0 Q h cells slots (mkF m pc L (.long y :: .long x :: S)) := by
  subst hq
  exact K.go fun T hA t st => by subst hz; exact XS.lxor hA C.1 rfl (hb C.2.1 hd) rfl st
theorem w_ishl (C : Cx p s m meth c Z own bytes maxL ret nm) {x y z : Int32} (hz : x <<< (y &&& 31) = z) (hd : decode bytes pc = .ok (.ishl, 1)) (hq : pc + 1 = q) (K : AtW p l e R s m args below meth c n0 Q h cells slots (mkF m q L (.int z :: S))) : AtW p l e R s m args below meth c n0 Q h cells slots (mkF m pc L (.int y :: .int x :: S)) := by
  subst hq
  exact K.go fun T hA t st => by subst hz; exact XS.ishl hA C.1 rfl (hb C.2.1 hd) rfl st
theorem w_ishr (C : Cx p s m meth c Z own bytes maxL ret nm) {x y z : Int32} (hz : x >>> (y &&& 31) = z) (hd : decode bytes pc = .ok (.ishr, 1)) (hq : pc + 1 = q) (K : AtW p l e R s m args below meth c n0 Q h cells slots (mkF m q L (.int z :: S))) : AtW p l e R s m args below meth c n0 Q h cells slots (mkF m pc L (.int y :: .int x :: S)) := by
  subst hq
  exact K.go fun T hA t st => by subst hz; exact XS.ishr hA C.1 rfl (hb C.2.1 hd) rfl st
theorem w_iushr (C : Cx p s m meth c Z own bytes maxL ret nm) {x y z : Int32} (hz : (x.toUInt32 >>> (y &&& 31).toUInt32).toInt32 = z) (hd : decode bytes pc = .ok (.iushr, 1)) (hq : pc + 1 = q) (K : AtW p l e R s m args below meth c n0 Q h cells slots (mkF m q L (.int z :: S))) : AtW p l e R s m args below meth c n0 Q h cells slots (mkF m pc L (.int y :: .int x :: S)) := by
  subst hq
  exact K.go fun T hA t st => by subst hz; exact XS.iushr hA C.1 rfl (hb C.2.1 hd) rfl st
theorem w_lshl (C : Cx p s m meth c Z own bytes maxL ret nm) {x z : Int64} {y : Int32} (hz : x <<< (y &&& 0x3f).toInt64 = z) (hd : decode bytes pc = .ok (.lshl, 1)) (hq : pc + 1 = q) (K : AtW p l e R s m args below meth c n0 Q h cells slots (mkF m q L (.long z :: S))) : AtW p l e R s m args below meth c n0 Q h cells slots (mkF m pc L (.int y :: .long x :: S)) := by
  subst hq
  exact K.go fun T hA t st => by subst hz; exact XS.lshl hA C.1 rfl (hb C.2.1 hd) rfl st
theorem w_lshr (C : Cx p s m meth c Z own bytes maxL ret nm) {x z : Int64} {y : Int32} (hz : x >>> (y &&& 0x3f).toInt64 = z) (hd : decode bytes pc = .ok (.lshr, 1)) (hq : pc + 1 = q) (K : AtW p l e R s m args below meth c n0 Q h cells slots (mkF m q L (.long z :: S))) : AtW p l e R s m args below meth c n0 Q h cells slots (mkF m pc L (.int y :: .long x :: S)) := by
  subst hq
  exact K.go fun T hA t st => by subst hz; exact XS.lshr hA C.1 rfl (hb C.2.1 hd) rfl st
theorem w_lushr (C : Cx p s m meth c Z own bytes maxL ret nm) {x z : Int64} {y : Int32} (hz : (x.toUInt64 >>> (y &&& 0x3f).toInt64.toUInt64).toInt64 = z) (hd : decode bytes pc = .ok (.lushr, 1)) (hq : pc + 1 = q) (K : AtW p l e R s m args below meth c n0 Q h cells slots (mkF m q L (.long z :: S))) : AtW p l e R s m args below meth c n0 Q h cells slots (mkF m pc L (.int y :: .long x :: S)) := by
  subst hq
  exact K.go fun T hA t st => by subst hz; exact XS.lushr hA C.1 rfl (hb C.2.1 hd) rfl st
theorem w_idiv (C : Cx p s m meth c Z own bytes maxL ret nm) {x y z : Int32} (hy : y ≠ 0) (hz : x / y = z) (hd : decode bytes pc = .ok (.idiv, 1)) (hq : pc + 1 = q) (K : AtW p l e R s m args below meth c n0 Q h cells slots (mkF m q L (.int z :: S))) : AtW p l e R s m args below meth c n0 Q h cells slots (mkF m pc L (.int y :: .int x :: S)) := by
  subst hq
  exact K.go fun T hA t st => by subst hz; exact XS.idiv hA C.1 rfl (hb C.2.1 hd) rfl hy st
theorem w_ldiv (C : Cx p s m meth c Z own bytes maxL ret nm) {x y z : Int64} (hy : y ≠ 0) (hz : x / y = z) (hd : decode bytes pc = .ok (.ldiv, 1)) (hq : pc + 1 = q) (K : AtW p l e R s m args below meth c n0 Q h cells slots (mkF m q L (.long z :: S))) : AtW p l e R s m args below meth c n0 Q h cells slots (mkF m pc L (.long y :: .long x :: S)) := by
  subst hq
  exact K.go fun T hA t st => by subst hz; exact XS.ldiv hA C.1 rfl (hb C.2.1 hd) rfl hy st
theorem w_irem (C : Cx p s m meth c Z own bytes maxL ret nm) {x y z : Int32} (hy : y ≠ 0) (hz : x % y = z) (hd : decode bytes pc = .ok (.irem, 1)) (hq : pc + 1 = q) (K : AtW p l e R s m args below meth c n0 Q h cells slots (mkF m q L (.int z :: S))) : AtW p l e R s m args below meth c n0 Q h cells slots (mkF m pc L (.int y :: .int x :: S)) := by
  subst hq
  exact K.go fun T hA t st => by subst hz; rw [← irem_eq_mod x y] at st; exact XS.irem hA C.1 rfl (hb C.2.1 hd) rfl hy st
theorem w_lrem (C : Cx p s m meth c Z own bytes maxL ret nm) {x y z : Int64} (hy : y ≠ 0) (hz : x % y = z) (hd : decode bytes pc = .ok (.lrem, 1)) (hq : pc + 1 = q) (K : AtW p l e R s m args below meth c n0 Q h cells slots (mkF m q L (.long z :: S))) : AtW p l e R s m args below meth c n0 Q h cells slots (mkF m pc L (.long y :: .long x :: S)) := by
  subst hq
  exact K.go fun T hA t st => by subst hz; rw [← lrem_mod x y] at st; exact XS.lrem hA C.1 rfl (hb C.2.1 hd) rfl hy st
theorem w_ineg (C : Cx p s m meth c Z own bytes maxL ret nm) {x : Int32} {z : Int32} (hz : -x = z) (hd : decode bytes pc = .ok (.ineg, 1)) (hq : pc + 1 = q) (K : AtW p l e R s m args below meth c n0 Q h cells slots (mkF m q L (.int z :: S))) : AtW p l e R s m args below meth c n0 Q h cells slots (mkF m pc L (.int x :: S)) := by
  subst hq
  exact K.go fun T hA t st => by subst hz; exact XS.ineg hA C.1 rfl (hb C.2.1 hd) rfl st
theorem w_lneg (C : Cx p s m meth c Z own bytes maxL ret nm) {x : Int64} {z : Int64} (hz : -x = z) (hd : decode bytes pc = .ok (.lneg, 1)) (hq : pc + 1 = q) (K : AtW p l e R s m args below meth c n0 Q h cells slots (mkF m q L (.long z :: S))) : AtW p l e R s m args below meth c n0 Q h cells slots (mkF m pc L (.long x :: S)) := by
  subst hq
  exact K.go fun T hA t st => by subst hz; exact XS.lneg hA C.1 rfl (hb C.2.1 hd) rfl st
theorem w_i2l (C : Cx p s m meth c Z own bytes maxL ret nm) {x : Int32} {z : Int64} (hz : x.toInt64 = z) (hd : decode bytes pc = .ok (.i2l, 1)) (hq : pc + 1 = q) (K : AtW p l e R s m args below meth c n0 Q h cells slots (mkF m q L (.long z :: S))) : AtW p l e R s m args below meth c n0 Q h cells slots (mkF m pc L (.int x :: S)) := by
  subst hq
  exact K.go fun T hA t st => by subst hz; exact XS.i2l hA C.1 rfl (hb C.2.1 hd) rfl st
theorem w_l2i (C : Cx p s m meth c Z own bytes maxL ret nm) {x : Int64} {z : Int32} (hz : x.toInt32 = z) (hd : decode bytes pc = .ok (.l2i, 1)) (hq : pc + 1 = q) (K : AtW p l e R s m args below meth c n0 Q h cells slots (mkF m q L (.int z :: S))) : AtW p l e R s m args below meth c n0 Q h cells slots (mkF m pc L (.long x :: S)) := by
  subst hq
  exact K.go fun T hA t st => by subst hz; exact XS.l2i hA C.1 rfl (hb C.2.1 hd) rfl st
theorem w_i2b (C : Cx p s m meth c Z own bytes maxL ret nm) {x : Int32} {z : Int32} (hz : x.toInt8.toInt32 = z) (hd : decode bytes pc = .ok (.i2b, 1)) (hq : pc + 1 = q) (K : AtW p l e R s m args below meth c n0 Q h cells slots (mkF m q L (.int z :: S))) : AtW p l e R s m args below meth c n0 Q h cells slots (mkF m pc L (.int x :: S)) := by
  subst hq
  exact K.go fun T hA t st => by subst hz; exact XS.i2b hA C.1 rfl (hb C.2.1 hd) rfl st
theorem w_i2s (C : Cx p s m meth c Z own bytes maxL ret nm) {x : Int32} {z : Int32} (hz : x.toInt16.toInt32 = z) (hd : decode bytes pc = .ok (.i2s, 1)) (hq : pc + 1 = q) (K : AtW p l e R s m args below meth c n0 Q h cells slots (mkF m q L (.int z :: S))) : AtW p l e R s m args below meth c n0 Q h cells slots (mkF m pc L (.int x :: S)) := by
  subst hq
  exact K.go fun T hA t st => by subst hz; exact XS.i2s hA C.1 rfl (hb C.2.1 hd) rfl st
theorem w_i2c (C : Cx p s m meth c Z own bytes maxL ret nm) {x : Int32} {z : Int32} (hz : x.toUInt32.toUInt16.toUInt32.toInt32 = z) (hd : decode bytes pc = .ok (.i2c, 1)) (hq : pc + 1 = q) (K : AtW p l e R s m args below meth c n0 Q h cells slots (mkF m q L (.int z :: S))) : AtW p l e R s m args below meth c n0 Q h cells slots (mkF m pc L (.int x :: S)) := by
  subst hq
  exact K.go fun T hA t st => by subst hz; exact XS.i2c hA C.1 rfl (hb C.2.1 hd) rfl st
theorem w_lcmp (C : Cx p s m meth c Z own bytes maxL ret nm) {x y : Int64} {z : Int32} (hz : lcmpW x y = z) (hd : decode bytes pc = .ok (.lcmp, 1)) (hq : pc + 1 = q) (K : AtW p l e R s m args below meth c n0 Q h cells slots (mkF m q L (.int z :: S))) : AtW p l e R s m args below meth c n0 Q h cells slots (mkF m pc L (.long y :: .long x :: S)) := by
  subst hq
  exact K.go fun T hA t st => by subst hz; exact XS.lcmp hA C.1 rfl (hb C.2.1 hd) rfl st
theorem w_dup (C : Cx p s m meth c Z own bytes maxL ret nm) {x : Value} (hc : x.category = 1) (hd : decode bytes pc = .ok (.dup, 1)) (hq : pc + 1 = q) (K : AtW p l e R s m args below meth c n0 Q h cells slots (mkF m q L (x :: x :: S))) : AtW p l e R s m args below meth c n0 Q h cells slots (mkF m pc L (x :: S)) := by
  subst hq
  exact K.go fun T hA t st => XS.dup hA C.1 rfl (hb C.2.1 hd) rfl hc st
theorem w_pop (C : Cx p s m meth c Z own bytes maxL ret nm) {x : Value} (hc : x.category = 1) (hd : decode bytes pc = .ok (.pop, 1)) (hq : pc + 1 = q) (K : AtW p l e R s m args below meth c n0 Q h cells slots (mkF m q L S)) : AtW p l e R s m args below meth c n0 Q h cells slots (mkF m pc L (x :: S)) := by
  subst hq
  exact K.go fun T hA t st => XS.pop hA C.1 rfl (hb C.2.1 hd) rfl hc st
theorem w_dup_x1 (C : Cx p s m meth c Z own bytes maxL ret nm) {x y : Value} (hc : x.category = 1) (hc' : y.category = 1) (hd : decode bytes pc = .ok (.dup_x1, 1)) (hq : pc + 1 = q) (K : AtW p l e R s m args below meth c n0 Q h cells slots (mkF m q L (x :: y :: x :: S))) : AtW p l e R s m args below meth c n0 Q h cells slots (mkF m pc L (x :: y :: S)) := by
  subst hq
  exact K.go fun T hA t st => XS.dupX1 hA C.1 rfl (hb C.2.1 hd) rfl hc hc' st
theorem w_iinc (C : Cx p s m meth c Z own bytes maxL ret nm) {k : Nat} {cst : Int} {x z : Int32} (hl : L[k]? = some (.val (.int x))) (hz : x + Int32.ofInt cst = z) (hl' : storeLocals L k (.int z) = some L') (hd : decode bytes pc = .ok (.iinc k cst, 3)) (hq : pc + 3 = q) (K : AtW p l e R s m args below meth c n0 Q h cells slots (mkF m q L' S)) : AtW p l e R s m args below meth c n0 Q h cells slots (mkF m pc L S) := by
  subst hq
  exact K.go fun T hA t st => by subst hz; exact XS.iinc hA C.1 rfl (hb C.2.1 hd) hl hl' st
theorem w_goto (C : Cx p s m meth c Z own bytes maxL ret nm) {o : Int} (hd : decode bytes pc = .ok (.goto o, 3)) (ho : 0 ≤ (pc : Int) + o) (hp : ((pc : Int) + o).toNat = q) (K : AtW p l e R s m args below meth c n0 Q h cells slots (mkF m q L S)) : AtW p l e R s m args below meth c n0 Q h cells slots (mkF m pc L S) :=
  K.go fun T hA t st => XS.goto hA C.1 rfl (pc0 := pc) (pc' := q) rfl (hb C.2.1 hd) ho hp st
theorem w_icmp_lt_t (C : Cx p s m meth c Z own bytes maxL ret nm) {o : Int} {x y : Int32} (hd : decode bytes pc = .ok (.if_icmp .lt o, 3)) (ho : 0 ≤ (pc : Int) + o) (hp : ((pc : Int) + o).toNat = q) (hc : x < y) (K : AtW p l e R s m args below meth c n0 Q h cells slots (mkF m q L S)) : AtW p l e R s m args below meth c n0 Q h cells slots (mkF m pc L (.int y :: .int x :: S)) :=
  K.go fun T hA t st => XS.icmpYes hA C.1 rfl (pc0 := pc) (pc' := q) rfl (hb C.2.1 hd) rfl (tlt hc).1 ho hp st
theorem w_icmp_lt_f (C : Cx p s m meth c Z own bytes maxL ret nm) {o : Int} {x y : Int32} (hd : decode bytes pc = .ok (.if_icmp .lt o, 3)) (hq : pc + 3 = q) (hc : ¬ x < y) (K : AtW p l e R s m args below meth c n0 Q h cells slots (mkF m q L S)) : AtW p l e R s m args below meth c n0 Q h cells slots (mkF m pc L (.int y :: .int x :: S)) := by
  subst hq
  exact K.go fun T hA t st => XS.icmpNo hA C.1 rfl (hb C.2.1 hd) rfl (flt hc).1 st
theorem w_if_lt_t (C : Cx p s m meth c Z own bytes maxL ret nm) {o : Int} {x : Int32} (hd : decode bytes pc = .ok (.ifCond .lt o, 3)) (ho : 0 ≤ (pc : Int) + o) (hp : ((pc : Int) + o).toNat = q) (hc : x < 0) (K : AtW p l e R s m args below meth c n0 Q h cells slots (mkF m q L S)) : AtW p l e R s m args below meth c n0 Q h cells slots (mkF m pc L (.int x :: S)) :=
  K.go fun T hA t st => XS.ifYes hA C.1 rfl (pc0 := pc) (pc' := q) rfl (hb C.2.1 hd) rfl ((if0 _ _).trans (tlt hc).1) ho hp st
theorem w_if_lt_f (C : Cx p s m meth c Z own bytes maxL ret nm) {o : Int} {x : Int32} (hd : decode bytes pc = .ok (.ifCond .lt o, 3)) (hq : pc + 3 = q) (hc : ¬ x < 0) (K : AtW p l e R s m args below meth c n0 Q h cells slots (mkF m q L S)) : AtW p l e R s m args below meth c n0 Q h cells slots (mkF m pc L (.int x :: S)) := by
  subst hq
  exact K.go fun T hA t st => XS.ifNo hA C.1 rfl (hb C.2.1 hd) rfl ((if0 _ _).trans (flt hc).1) st
theorem w_icmp_ge_t (C : Cx p s m meth c Z own bytes maxL ret nm) {o : Int} {x y : Int32} (hd : decode bytes pc = .ok (.if_icmp .ge o, 3)) (ho : 0 ≤ (pc : Int) + o) (hp : ((pc : Int) + o).toNat = q) (hc : ¬ x < y) (K : AtW p l e R s m args below meth c n0 Q h cells slots (mkF m q L S)) : AtW p l e R s m args below meth c n0 Q h cells slots (mkF m pc L (.int y :: .int x :: S)) :=
  K.go fun T hA t st => XS.icmpYes hA C.1 rfl (pc0 := pc) (pc' := q) rfl (hb C.2.1 hd) rfl (flt hc).2.1 ho hp st
theorem w_icmp_ge_f (C : Cx p s m meth c Z own bytes maxL ret nm) {o : Int} {x y : Int32} (hd : decode bytes pc = .ok (.if_icmp .ge o, 3)) (hq : pc + 3 = q) (hc : x < y) (K : AtW p l e R s m args below meth c n0 Q h cells slots (mkF m q L S)) : AtW p l e R s m args below meth c n0 Q h cells slots (mkF m pc L (.int y :: .int x :: S)) := by
  subst hq
  exact K.go fun T hA t st => XS.icmpNo hA C.1 rfl (hb C.2.1 hd) rfl (tlt hc).2.1 st
theorem w_if_ge_t (C : Cx p s m meth c Z own bytes maxL ret nm) {o : Int} {x : Int32} (hd : decode bytes pc = .ok (.ifCond .ge o, 3)) (ho : 0 ≤ (pc : Int) + o) (hp : ((pc : Int) + o).toNat = q) (hc : ¬ x < 0) (K : AtW p l e R s m args below meth c n0 Q h cells slots (mkF m q L S)) : AtW p l e R s m args below meth c n0 Q h cells slots (mkF m pc L (.int x :: S)) :=
  K.go fun T hA t st => XS.ifYes hA C.1 rfl (pc0 := pc) (pc' := q) rfl (hb C.2.1 hd) rfl ((if0 _ _).trans (flt hc).2.1) ho hp st
theorem w_if_ge_f (C : Cx p s m meth c Z own bytes maxL ret nm) {o : Int} {x : Int32} (hd : decode bytes pc = .ok (.ifCond .ge o, 3)) (hq : pc + 3 = q) (hc : x < 0) (K : AtW p l e R s m args below meth c n0 Q h cells slots (mkF m q L S)) : AtW p l e R s m args below meth c n0 Q h cells slots (mkF m pc L (.int x :: S)) := by
  subst hq
  exact K.go fun T hA t st => XS.ifNo hA C.1 rfl (hb C.2.1 hd) rfl ((if0 _ _).trans (tlt hc).2.1) st
theorem w_icmp_gt_t (C : Cx p s m meth c Z own bytes maxL ret nm) {o : Int} {x y : Int32} (hd : decode bytes pc = .ok (.if_icmp .gt o, 3)) (ho : 0 ≤ (pc : Int) + o) (hp : ((pc : Int) + o).toNat = q) (hc : y < x) (K : AtW p l e R s m args below meth c n0 Q h cells slots (mkF m q L S)) : AtW p l e R s m args below meth c n0 Q h cells slots (mkF m pc L (.int y :: .int x :: S)) :=
  K.go fun T hA t st => XS.icmpYes hA C.1 rfl (pc0 := pc) (pc' := q) rfl (hb C.2.1 hd) rfl (tlt hc).2.2.1 ho hp st
theorem w_icmp_gt_f (C : Cx p s m meth c Z own bytes maxL ret nm) {o : Int} {x y : Int32} (hd : decode bytes pc = .ok (.if_icmp .gt o, 3)) (hq : pc + 3 = q) (hc : ¬ y < x) (K : AtW p l e R s m args below meth c n0 Q h cells slots (mkF m q L S)) : AtW p l e R s m args below meth c n0 Q h cells slots (mkF m pc L (.int y :: .int x :: S)) := by
  subst hq
  exact K.go fun T hA t st => XS.icmpNo hA C.1 rfl (hb C.2.1 hd) rfl (flt hc).2.2.1 st
theorem w_if_gt_t (C : Cx p s m meth c Z own bytes maxL ret nm) {o : Int} {x : Int32} (hd : decode bytes pc = .ok (.ifCond .gt o, 3)) (ho : 0 ≤ (pc : Int) + o) (hp : ((pc : Int) + o).toNat = q) (hc : 0 < x) (K : AtW p l e R s m args below meth c n0 Q h cells slots (mkF m q L S)) : AtW p l e R s m args below meth c n0 Q h cells slots (mkF m pc L (.int x :: S)) :=
  K.go fun T hA t st => XS.ifYes hA C.1 rfl (pc0 := pc) (pc' := q) rfl (hb C.2.1 hd) rfl ((if0 _ _).trans (tlt hc).2.2.1) ho hp st
theorem w_if_gt_f (C : Cx p s m meth c Z own bytes maxL ret nm) {o : Int} {x : Int32} (hd : decode bytes pc = .ok (.ifCond .gt o, 3)) (hq : pc + 3 = q) (hc : ¬ 0 < x) (K : AtW p l e R s m args below meth c n0 Q h cells slots (mkF m q L S)) : AtW p l e R s m args below meth c n0 Q h cells slots (mkF m pc L (.int x :: S)) := by
  subst hq
  exact K.go fun T hA t st => XS.ifNo hA C.1 rfl (hb C.2.1 hd) rfl ((if0 _ _).trans (flt hc).2.2.1) st
theorem w_icmp_le_t (C : Cx p s m meth c Z own bytes maxL ret nm) {o : Int} {x y : Int32} (hd : decode bytes pc = .ok (.if_icmp .le o, 3)) (ho : 0 ≤ (pc : Int) + o) (hp : ((pc : Int) + o).toNat = q) (hc : ¬ y < x) (K : AtW p l e R s m args below meth c n0 Q h cells slots (mkF m q L S)) : AtW p l e R s m args below meth c n0 Q h cells slots (mkF m pc L (.int y :: .int x :: S)) :=
  K.go fun T hA t st => XS.icmpYes hA C.1 rfl (pc0 := pc) (pc' := q) rfl (hb C.2.1 hd) rfl (flt hc).2.2.2 ho hp st
theorem w_icmp_le_f (C : Cx p s m meth c Z own bytes maxL ret nm) {o : Int} {x y : Int32} (hd : decode bytes pc = .ok (.if_icmp .le o, 3)) (hq : pc + 3 = q) (hc : y < x) (K : AtW p l e R s m args below meth c n0 Q h cells slots (mkF m q L S)) : AtW p l e R s m args below meth c n0 Q h cells slots (mkF m pc L (.int y :: .int x :: S)) := by
  subst hq
  exact K.go fun T hA t st => XS.icmpNo hA C.1 rfl (hb C.2.1 hd) rfl (tlt hc).2.2.2 st
theorem w_if_le_t (C : Cx p s m meth c Z own bytes maxL ret nm) {o : Int} {x : Int32} (hd : decode bytes pc = .ok (.ifCond .le o, 3)) (ho : 0 ≤ (pc : Int) + o) (hp : ((pc : Int) + o).toNat = q) (hc : ¬ 0 < x) (K : AtW p l e R s m args below meth c n0 Q h cells slots (mkF m q L S)) : AtW p l e R s m args below meth c n0 Q h cells slots (mkF m pc L (.int x :: S)) :=
  K.go fun T hA t st => XS.ifYes hA C.1 rfl (pc0 := pc) (pc' := q) rfl (hb C.2.1 hd) rfl ((if0 _ _).trans (flt hc).2.2.2) ho hp st
theorem w_if_le_f (C : Cx p s m meth c Z own bytes maxL ret nm) {o : Int} {x : Int32} (hd : decode bytes pc = .ok (.ifCond .le o, 3)) (hq : pc + 3 = q) (hc : 0 < x) (K : AtW p l e R s m args below meth c n0 Q h cells slots (mkF m q L S)) : AtW p l e R s m args below meth c n0 Q h cells slots (mkF m pc L (.int x :: S)) := by
  subst hq
  exact K.go fun T hA t st => XS.ifNo hA C.1 rfl (hb C.2.1 hd) rfl ((if0 _ _).trans (tlt hc).2.2.2) st
theorem w_icmp_eq_t (C : Cx p s m meth c Z own bytes maxL ret nm) {o : Int} {x y : Int32} (hd : decode bytes pc = .ok (.if_icmp .eq o, 3)) (ho : 0 ≤ (pc : Int) + o) (hp : ((pc : Int) + o).toNat = q) (hc : x = y) (K : AtW p l e R s m args below meth c n0 Q h cells slots (mkF m q L S)) : AtW p l e R s m args below meth c n0 Q h cells slots (mkF m pc L (.int y :: .int x :: S)) :=
  K.go fun T hA t st => XS.icmpYes hA C.1 rfl (pc0 := pc) (pc' := q) rfl (hb C.2.1 hd) rfl (teq hc).1 ho hp st
theorem w_icmp_eq_f (C : Cx p s m meth c Z own bytes maxL ret nm) {o : Int} {x y : Int32} (hd : decode bytes pc = .ok (.if_icmp .eq o, 3)) (hq : pc + 3 = q) (hc : ¬ x = y) (K : AtW p l e R s m args below meth c n0 Q h cells slots (mkF m q L S)) : AtW p l e R s m args below meth c n0 Q h cells slots (mkF m pc L (.int y :: .int x :: S)) := by
  subst hq
  exact K.go fun T hA t st => XS.icmpNo hA C.1 rfl (hb C.2.1 hd) rfl (feq hc).1 st
theorem w_if_eq_t (C : Cx p s m meth c Z own bytes maxL ret nm) {o : Int} {x : Int32} (hd : decode bytes pc = .ok (.ifCond .eq o, 3)) (ho : 0 ≤ (pc : Int) + o) (hp : ((pc : Int) + o).toNat = q) (hc : x = 0) (K : AtW p l e R s m args below meth c n0 Q h cells slots (mkF m q L S)) : AtW p l e R s m args below meth c n0 Q h cells slots (mkF m pc L (.int x :: S)) :=
  K.go fun T hA t st => XS.ifYes hA C.1 rfl (pc0 := pc) (pc' := q) rfl (hb C.2.1 hd) rfl ((if0 _ _).trans (teq hc).1) ho hp st
theorem w_if_eq_f (C : Cx p s m meth c Z own bytes maxL ret nm) {o : Int} {x : Int32} (hd : decode bytes pc = .ok (.ifCond .eq o, 3)) (hq : pc + 3 = q) (hc : ¬ x = 0) (K : AtW p l e R s m args below meth c n0 Q h cells slots (mkF m q L S)) : AtW p l e R s m args below meth c n0 Q h cells slots (mkF m pc L (.int x :: S)) := by
  subst hq
  exact K.go fun T hA t st => XS.ifNo hA C.1 rfl (hb C.2.1 hd) rfl ((if0 _ _).trans (feq hc).1) st
theorem w_icmp_ne_t (C : Cx p s m meth c Z own bytes maxL ret nm) {o : Int} {x y : Int32} (hd : decode bytes pc = .ok (.if_icmp .ne o, 3)) (ho : 0 ≤ (pc : Int) + o) (hp : ((pc : Int) + o).toNat = q) (hc : ¬ x = y) (K : AtW p l e R s m args below meth c n0 Q h cells slots (mkF m q L S)) : AtW p l e R s m args below meth c n0 Q h cells slots (mkF m pc L (.int y :: .int x :: S)) :=
  K.go fun T hA t st => XS.icmpYes hA C.1 rfl (pc0 := pc) (pc' := q) rfl (hb C.2.1 hd) rfl (feq hc).2 ho hp st
theorem w_icmp_ne_f (C : Cx p s m meth c Z own bytes maxL ret nm) {o : Int} {x y : Int32} (hd : decode bytes pc = .ok (.if_icmp .ne o, 3)) (hq : pc + 3 = q) (hc : x = y) (K : AtW p l e R s m args below meth c n0 Q h cells slots (mkF m q L S)) : AtW p l e R s m args below meth c n0 Q h cells slots (mkF m pc L (.int y :: .int x :: S)) := by
  subst hq
  exact K.go fun T hA t st => XS.icmpNo hA C.1 rfl (hb C.2.1 hd) rfl (teq hc).2 st
theorem w_if_ne_t (C : Cx p s m meth c Z own bytes maxL ret nm) {o : Int} {x : Int32} (hd : decode bytes pc = .ok (.ifCond .ne o, 3)) (ho : 0 ≤ (pc : Int) + o) (hp : ((pc : Int) + o).toNat = q) (hc : ¬ x = 0) (K : AtW p l e R s m args below meth c n0 Q h cells slots (mkF m q L S)) : AtW p l e R s m args below meth c n0 Q h cells slots (mkF m pc L (.int x :: S)) :=
  K.go fun T hA t st => XS.ifYes hA C.1 rfl (pc0 := pc) (pc' := q) rfl (hb C.2.1 hd) rfl ((if0 _ _).trans (feq hc).2) ho hp st
theorem w_if_ne_f (C : Cx p s m meth c Z own bytes maxL ret nm) {o : Int} {x : Int32} (hd : decode bytes pc = .ok (.ifCond .ne o, 3)) (hq : pc + 3 = q) (hc : x = 0) (K : AtW p l e R s m args below meth c n0 Q h cells slots (mkF m q L S)) : AtW p l e R s m args below meth c n0 Q h cells slots (mkF m pc L (.int x :: S)) := by
  subst hq
  exact K.go fun T hA t st => XS.ifNo hA C.1 rfl (hb C.2.1 hd) rfl ((if0 _ _).trans (teq hc).2) st
theorem w_ifnull_t (C : Cx p s m meth c Z own bytes maxL ret nm) {o : Int} (hd : decode bytes pc = .ok (.ifnull o, 3)) (ho : 0 ≤ (pc : Int) + o) (hp : ((pc : Int) + o).toNat = q) (K : AtW p l e R s m args below meth c n0 Q h cells slots (mkF m q L S)) : AtW p l e R s m args below meth c n0 Q h cells slots (mkF m pc L (.null :: S)) :=
  K.go fun T hA t st => XS.ifnullYes hA C.1 rfl (pc0 := pc) (pc' := q) rfl (hb C.2.1 hd) rfl ho hp st
theorem w_ifnull_f (C : Cx p s m meth c Z own bytes maxL ret nm) {o : Int} {b : Addr} (hd : decode bytes pc = .ok (.ifnull o, 3)) (hq : pc + 3 = q) (K : AtW p l e R s m args below meth c n0 Q h cells slots (mkF m q L S)) : AtW p l e R s m args below meth c n0 Q h cells slots (mkF m pc L ((.ref b) :: S)) := by
  subst hq
  exact K.go fun T hA t st => XS.ifnullNo hA C.1 rfl (hb C.2.1 hd) rfl st
theorem w_ifnonnull_t (C : Cx p s m meth c Z own bytes maxL ret nm) {o : Int} {b : Addr} (hd : decode bytes pc = .ok (.ifnonnull o, 3)) (ho : 0 ≤ (pc : Int) + o) (hp : ((pc : Int) + o).toNat = q) (K : AtW p l e R s m args below meth c n0 Q h cells slots (mkF m q L S)) : AtW p l e R s m args below meth c n0 Q h cells slots (mkF m pc L ((.ref b) :: S)) :=
  K.go fun T hA t st => XS.ifnonnullYes hA C.1 rfl (pc0 := pc) (pc' := q) rfl (hb C.2.1 hd) rfl ho hp st
theorem w_ifnonnull_f (C : Cx p s m meth c Z own bytes maxL ret nm) {o : Int} (hd : decode bytes pc = .ok (.ifnonnull o, 3)) (hq : pc + 3 = q) (K : AtW p l e R s m args below meth c n0 Q h cells slots (mkF m q L S)) : AtW p l e R s m args below meth c n0 Q h cells slots (mkF m pc L (.null :: S)) := by
  subst hq
  exact K.go fun T hA t st => XS.ifnonnullNo hA C.1 rfl (hb C.2.1 hd) rfl st
theorem w_acmp_t (C : Cx p s m meth c Z own bytes maxL ret nm) {cd : ACond} {o : Int} {x y : Value} (hd : decode bytes pc = .ok (.if_acmp cd o, 3)) (h1 : x.isRef = true) (h2 : y.isRef = true) {same : Bool} (hs : decide (x = y) = same) (hcd : acV cd same = true) (ho : 0 ≤ (pc : Int) + o) (hp : ((pc : Int) + o).toNat = q) (K : AtW p l e R s m args below meth c n0 Q h cells slots (mkF m q L S)) : AtW p l e R s m args below meth c n0 Q h cells slots (mkF m pc L (y :: x :: S)) :=
  K.goX fun T locs k n X eT t st => Jvm.RoadKit.acmp (g := mkF m pc L (y :: x :: S)) X C.1 rfl h1 h2 (pc0 := pc) (pc' := q) (same := same) rfl (hb C.2.1 hd) rfl hs ho (by rw [if_pos hcd]; exact hp.symm) st
theorem w_acmp_f (C : Cx p s m meth c Z own bytes maxL ret nm) {cd : ACond} {o : Int} {x y : Value} (hd : decode bytes pc = .ok (.if_acmp cd o, 3)) (h1 : x.isRef = true) (h2 : y.isRef = true) {same : Bool} (hs : decide (x = y) = same) (hcd : acV cd same = false) (ho : 0 ≤ (pc : Int) + o) (hq : pc + 3 = q) (K : AtW p l e R s m args below meth c n0 Q h cells slots (mkF m q L S)) : AtW p l e R s m args below meth c n0 Q h cells slots (mkF m pc L (y :: x :: S)) :=
  K.goX fun T locs k n X eT t st => Jvm.RoadKit.acmp (g := mkF m pc L (y :: x :: S)) X C.1 rfl h1 h2 (pc0 := pc) (pc' := q) (same := same) rfl (hb C.2.1 hd) rfl hs ho (by rw [if_neg (by rw [hcd]; exact Bool.false_ne_true)]; exact hq.symm) st
theorem w_ldcI (C : Cx p s m meth c Z own bytes maxL ret nm) {i : Nat} {v : Int32} (w : (Jvm.Cond.constant own i v).before a0 Z = true) (hd : decode bytes pc = .ok (.ldc i, 2)) (hq : pc + 2 = q) (K : AtW p l e R s m args below meth c n0 Q h cells slots (mkF m q L (.int v :: S))) : AtW p l e R s m args below meth c n0 Q h cells slots (mkF m pc L S) := by
  subst hq
  exact K.goX fun T locs k n X eT t st => X.ldcInt C.1 C.2.2.2.2.1 (mvT C.2.2.2.1 w) (g := mkF m pc L S) rfl (hb C.2.1 hd) t st
theorem w_ldcwI (C : Cx p s m meth c Z own bytes maxL ret nm) {i : Nat} {v : Int32} (w : (Jvm.Cond.constant own i v).before a0 Z = true) (hd : decode bytes pc = .ok (.ldc_w i, 3)) (hq : pc + 3 = q) (K : AtW p l e R s m args below meth c n0 Q h cells slots (mkF m q L (.int v :: S))) : AtW p l e R s m args below meth c n0 Q h cells slots (mkF m pc L S) := by
  subst hq
  exact K.goX fun T locs k n X eT t st => X.ldcwInt C.1 C.2.2.2.2.1 (mvT C.2.2.2.1 w) (g := mkF m pc L S) rfl (hb C.2.1 hd) t st
theorem w_ldc2J (C : Cx p s m meth c Z own bytes maxL ret nm) {i : Nat} {v : Int64} (w : (Jvm.Cond.constantLong own i v).before a0 Z = true) (hd : decode bytes pc = .ok (.ldc2_w i, 3)) (hq : pc + 3 = q) (K : AtW p l e R s m args below meth c n0 Q h cells slots (mkF m q L (.long v :: S))) : AtW p l e R s m args below meth c n0 Q h cells slots (mkF m pc L S) := by
  subst hq
  exact K.goX fun T locs k n X eT t st => X.ldc2Long C.1 C.2.2.2.2.1 (mvT C.2.2.2.1 w) (g := mkF m pc L S) rfl (hb C.2.1 hd) t st

theorem w_getF (C : Cx p s m meth c Z own bytes maxL ret nm) {R0 O n d host : String} {i : Nat} {a : Addr} {v : Value} (w : (Jvm.Cond.fieldLink own i R0 n d).before a0 Z = true ∨ (Jvm.Cond.fieldLinkNest own i R0 n d host).before a0 Z = true) (via : Via Z R0 O n d) (F : Fld Z h a O n d v) (hd : decode bytes pc = .ok (.getfield i, 3)) (hq : pc + 3 = q) (K : AtW p l e R s m args below meth c n0 Q h cells slots (mkF m q L (v :: S))) : AtW p l e R s m args below meth c n0 Q h cells slots (mkF m pc L (.ref a :: S)) := by
  subst hq
  intro T locs k n X hk hn eT N
  obtain ⟨T', X', e', st⟩ := getF X C.1 C.2.2.2.1 (host := host) C.2.2.2.2.1 w via eT F (g := mkF m pc L (.ref a :: S)) rfl rfl (hb C.2.1 hd)
  obtain ⟨t, o, r1, r⟩ := K T' locs k n X' hk hn e' N
  exact ⟨t, o, st _ r1, r⟩
theorem w_getS (C : Cx p s m meth c Z own bytes maxL ret nm) {R0 O n d host : String} {i : Nat} {v : Value} (w : (Jvm.Cond.fieldLink own i R0 n d).before a0 Z = true ∨ (Jvm.Cond.fieldLinkNest own i R0 n d host).before a0 Z = true) (via : Via Z R0 O n d) (F : Sta Z h O n d v) (hd : decode bytes pc = .ok (.getstatic i, 3)) (hq : pc + 3 = q) (K : AtW p l e R s m args below meth c n0 Q h cells slots (mkF m q L (v :: S))) : AtW p l e R s m args below meth c n0 Q h cells slots (mkF m pc L S) := by
  subst hq
  intro T locs k n X hk hn eT N
  obtain ⟨T', X', e', st⟩ := getS2 X C.1 C.2.2.2.1 (host := host) C.2.2.2.2.1 w via eT F (g := mkF m pc L S) rfl (hb C.2.1 hd)
  obtain ⟨t, o, r1, r⟩ := K T' locs k n X' hk hn e' N
  exact ⟨t, o, st _ r1, r⟩
theorem w_cast (C : Cx p s m meth c Z own bytes maxL ret nm) {K : String} {i : Nat} {a : Addr} (w : (Jvm.Cond.classLink own i K).before a0 Z = true) (F : Ins Z h a K true) (hd : decode bytes pc = .ok (.checkcast i, 3)) (hq : pc + 3 = q) (K : AtW p l e R s m args below meth c n0 Q h cells slots (mkF m q L (.ref a :: S))) : AtW p l e R s m args below meth c n0 Q h cells slots (mkF m pc L (.ref a :: S)) := by
  subst hq
  intro T locs k n X hk hn eT N
  obtain ⟨T', X', e', st⟩ := castY X C.1 C.2.2.2.1 C.2.2.2.2.1 w eT F (g := mkF m pc L (.ref a :: S)) rfl rfl (hb C.2.1 hd)
  obtain ⟨t, o, r1, r⟩ := K T' locs k n X' hk hn e' N
  exact ⟨t, o, st _ r1, r⟩
theorem w_inst (C : Cx p s m meth c Z own bytes maxL ret nm) {K : String} {i : Nat} {a : Addr} (w : (Jvm.Cond.classLink own i K).before a0 Z = true) (F : Ins Z h a K true) (hd : decode bytes pc = .ok (.instanceof i, 3)) (hq : pc + 3 = q) (K : AtW p l e R s m args below meth c n0 Q h cells slots (mkF m q L (.int 1 :: S))) : AtW p l e R s m args below meth c n0 Q h cells slots (mkF m pc L (.ref a :: S)) := by
  subst hq
  intro T locs k n X hk hn eT N
  obtain ⟨T', X', e', st⟩ := instY X C.1 C.2.2.2.1 C.2.2.2.2.1 w eT F (g := mkF m pc L (.ref a :: S)) rfl rfl (hb C.2.1 hd)
  obtain ⟨t, o, r1, r⟩ := K T' locs k n X' hk hn e' N
  exact ⟨t, o, st _ r1, r⟩
theorem w_initO (C : Cx p s m meth c Z own bytes maxL ret nm) {i : Nat} {a : Addr} (w1 : (Jvm.Cond.methodLink own i Lib.objectInit).before a0 Z = true) (w2 : (Jvm.Cond.instanceMethod Lib.objectInit).before a0 Z = true) (w3 : (Jvm.Cond.code Lib.objectInit object_method_1_code 1 none).before a0 Z = true) (hL : L.size = maxL) (hf : 1 ≤ R.frames) {W : Nat} (hW : (S.map fun v => v.category).sum ≤ W) (hlo : W + 12 ≤ R.locals) (hd : decode bytes pc = .ok (.invokespecial i, 3)) (hq : pc + 3 = q) (K : AtW p l e R s m args below meth c n0 Q h cells slots (mkF m q L S)) : AtW p l e R s m args below meth c n0 Q h cells slots (mkF m pc L (.ref a :: S)) := by
  subst hq
  intro T locs k n X hk hn eT N
  obtain ⟨T', X', e', st⟩ := initO X C.1 C.2.2.2.1 C.2.2.2.2.1 w1 w2 w3 eT (g := mkF m pc L (.ref a :: S)) rfl (hL.trans C.2.2.1.symm) rfl (hb C.2.1 hd) hf (W := W) (by show 2 * 0 + _ ≤ _; omega) hlo
  obtain ⟨t, o, r1, r⟩ := K T' locs k n X' hk hn e' N
  exact ⟨t, o, st _ r1, r⟩
theorem w_putF (C : Cx p s m meth c Z own bytes maxL ret nm) {R0 O n d host Cl : String} {i kk : Nat} {ty : FieldType} {a : Addr} {v v' old : Value} (w : (Jvm.Cond.fieldLink own i R0 n d).before a0 Z = true) (via : Via Z R0 O n d) (F : Fld Z h a O n d old) (E : Exa Z h a Cl)
    (hL : (Jvm.Cond.lays Cl O n d).before a0 Z = true ∨ ((Jvm.Cond.laysFinal Cl O n d).before a0 Z = true ∧ own = O ∧ nm = "<init>")) (wi : (Jvm.Cond.instantiable Cl kk).before a0 Z = true) (hty : parseFieldDescriptor d = some ty) (hn : narrow ty v = v') (hf : fits ty v' = true) (hge : n0 ≤ a)
    (hd : decode bytes pc = .ok (.putfield i, 3)) (hq : pc + 3 = q) (K : ∀ h', Wr h h' a (Jvm.RoadKit.slotOf Z O n d) v' → AtW p l e R s m args below meth c n0 Q h' cells slots (mkF m q L S)) : AtW p l e R s m args below meth c n0 Q h cells slots (mkF m pc L (v :: .ref a :: S)) := by
  subst hq
  intro T locs k n' X hk hn' eT N
  have hL' : (Jvm.Cond.lays Cl O n d).before a0 Z = true ∨ ((Jvm.Cond.laysFinal Cl O n d).before a0 Z = true ∧ own = O ∧ meth.name = "<init>") := hL.imp id fun x => ⟨x.1, x.2.1, C.2.2.2.2.2.2.2.trans x.2.2⟩
  obtain ⟨T', h', X', e', W, st⟩ := putFN X C.1 C.2.2.2.1 C.2.2.2.2.1 w via eT F E hL' wi hty hn hf (g := mkF m pc L (v :: .ref a :: S)) rfl rfl (hb C.2.1 hd)
  obtain ⟨t, o, r1, r⟩ := K h' W T' _ k n' X' hk hn' e' (Fr.snoc X' N hge)
  exact ⟨t, o, st _ r1, r⟩
theorem w_new (C : Cx p s m meth c Z own bytes maxL ret nm) {Cl : String} {i n : Nat} (w : (Jvm.Cond.classLink own i Cl).before a0 Z = true) (wi : (Jvm.Cond.instantiable Cl n).before a0 Z = true) (wz : (Jvm.Cond.initialized Cl).before a0 Z = true) {cells' slots' : Nat} (hc1 : cells + 1 = cells') (hs1 : slots + n = slots') (hc : cells' ≤ R.cells) (hl : slots' ≤ R.slots)
    (hd : decode bytes pc = .ok (.new i, 3)) (hq : pc + 3 = q) (K : ∀ h' a, a = h.size → Ext h h' → Exa Z h' a Cl → (∀ {O nm d : String} {ty : FieldType}, RoadKit.Laid Z a0 Cl O nm d → parseFieldDescriptor d = some ty → Fld Z h' a O nm d (defaultValue ty)) → AtW p l e R s m args below meth c n0 Q h' cells' slots' (mkF m q L (.ref a :: S))) : AtW p l e R s m args below meth c n0 Q h cells slots (mkF m pc L S) := by
  subst hq hc1 hs1
  intro T locs k n' X hk hn' eT N
  obtain ⟨T', h', X', e', E, A, D, -, st⟩ := newO X C.1 C.2.2.2.1 C.2.2.2.2.1 w wi wz eT (g := mkF m pc L S) rfl (hb C.2.1 hd) (by omega) (by omega)
  obtain ⟨t, o, r1, r⟩ := K h' h.size rfl E A D T' _ (k + 1) (n' + n) X' (by omega) (by omega) e' N
  exact ⟨t, o, st _ r1, r⟩
/-- an array that holds just vs -/
def Ar (Z : State) (h : Heap) (a : Addr) (ty : FieldType) (vs : List Value) : Prop := vs.length < 2 ^ 31 ∧ ∃ k, Arv Z h a k ty (Int32.ofNat vs.length) vs (defaultValue ty)
theorem ofNat_neg {n : Nat} (h : n < 2 ^ 31) : ¬ Int32.ofNat n < 0 := by
  intro q
  have := Int32.lt_iff_toInt_lt.mp q
  rw [Int32.toInt_ofNat_small h] at this
  simp at this
  omega
theorem ofNat_nat {n : Nat} (h : n < 2 ^ 31) : (Int32.ofNat n).toNatClampNeg = n := by
  simp only [Int32.toNatClampNeg, Int32.toInt_ofNat_small h]; rfl
theorem nat_of_nonneg {x : Int32} (h : ¬ x < 0) : Int32.ofNat x.toNatClampNeg = x ∧ x.toNatClampNeg < 2 ^ 31 := by
  obtain ⟨h1, h2⟩ := back32 h
  exact ⟨h1, h2⟩
theorem Ar.keep {a : Addr} {ty : FieldType} {vs : List Value} {h' : Heap} {ws : List Addr} (F : Ar Z h a ty vs) (K : Keep h h' ws) (q : a ∉ ws) : Ar Z h' a ty vs := ⟨F.1, F.2.imp fun k V => V.keep K q⟩
theorem Ar.ext {a : Addr} {ty : FieldType} {vs : List Value} {h' : Heap} (F : Ar Z h a ty vs) (E : Ext h h') : Ar Z h' a ty vs := ⟨F.1, F.2.imp fun k V => V.ext E⟩
theorem Ar.other {a b : Addr} {ty : FieldType} {vs : List Value} {h' : Heap} {sl : Nat} {v : Value} (F : Ar Z h b ty vs) (W : Wr h h' a sl v) (q : b ≠ a) : Ar Z h' b ty vs := ⟨F.1, F.2.imp fun k V => V.other W q⟩
theorem Ar.lt {a : Addr} {ty : FieldType} {vs : List Value} (F : Ar Z h a ty vs) : a < h.size := F.2.elim fun k V => V.lt
theorem Ar.eq {a : Addr} {ty : FieldType} {vs vs' : List Value} (F : Ar Z h a ty vs) (q : vs = vs') : Ar Z h a ty vs' := q ▸ F
theorem Keep.of_ext {h' : Heap} (E : Ext h h') : Keep h h' [] := (Keep.refl h []).ext E
theorem Keep.to_ext {h' : Heap} (K : Keep h h' []) : Ext h h' := ⟨K.1, fun a c q => K.2.1 a c q (by simp)⟩
theorem w_newArr (C : Cx p s m meth c Z own bytes maxL ret nm) {aty : ArrayType} {ty : FieldType} {n : Int32} (w : (Jvm.Cond.arrayClass ty).before a0 Z = true) (hty : newarray.typeOf aty = ty) (hn : ¬ n < 0) {cap : Nat} (hcap : n.toNatClampNeg ≤ cap) (hb' : cap * 8 ≤ 536870912) {cells' slots' : Nat} (hc1 : cells + 1 = cells') (hs1 : slots + cap = slots') (hc : cells' ≤ R.cells) (hl : slots' ≤ R.slots)
    (hd : decode bytes pc = .ok (.newarray aty, 2)) (hq : pc + 2 = q) (K : ∀ h' a, a = h.size → Ext h h' → Ar Z h' a ty (List.replicate n.toNatClampNeg (defaultValue ty)) → AtW p l e R s m args below meth c n0 Q h' cells' slots' (mkF m q L (.ref a :: S))) : AtW p l e R s m args below meth c n0 Q h cells slots (mkF m pc L (.int n :: S)) := by
  subst hq hc1 hs1 hty
  intro T locs k n' X hk hn' eT N
  obtain ⟨T', h', cA, X', e', E, A, st⟩ := newP X C.1 C.2.2.2.1 w eT (g := mkF m pc L (.int n :: S)) rfl (hb C.2.1 hd) rfl hn hcap hb' (by omega) (by omega)
  have q := nat_of_nonneg hn
  have V := (Arv.new A hn).pad (pad_rep [] (defaultValue (newarray.typeOf aty)) n.toNatClampNeg)
  obtain ⟨t, o, r1, r⟩ := K h' h.size rfl E ⟨by simpa using q.2, cA, by simpa [q.1] using V⟩ T' _ (k + 1) (n' + cap) X' (by omega) (by omega) e' N
  exact ⟨t, o, st _ r1, r⟩
theorem w_len (C : Cx p s m meth c Z own bytes maxL ret nm) {a : Addr} {ty : FieldType} {vs : List Value} {z : Int32} (A : Ar Z h a ty vs) (hz : Int32.ofNat vs.length = z) (hd : decode bytes pc = .ok (.arraylength, 1)) (hq : pc + 1 = q) (K : AtW p l e R s m args below meth c n0 Q h cells slots (mkF m q L (.int z :: S))) : AtW p l e R s m args below meth c n0 Q h cells slots (mkF m pc L (.ref a :: S)) := by
  subst hq hz
  obtain ⟨hlt, k, cl, Ar, -, hS, hM, -, -⟩ := A
  refine K.goX fun T locs k n X eT t st => X.arraylength C.1 (by rw [eT]; exact Ar.1) (State.isArrayOf_alike C.2.2.2.1.alike Ar.2.1) (g := mkF m pc L (.ref a :: S)) rfl rfl (hb C.2.1 hd) t ?_
  rw [len_of hS hM]; exact st

theorem w_iaload (C : Cx p s m meth c Z own bytes maxL ret nm) {a : Addr} {vs : List Value} {j : Int32} {i : Nat} {v : Value} (A : Ar Z h a .int vs) (hj : j = Int32.ofNat i) (hv : vs[i]? = some v) (hd : decode bytes pc = .ok (.iaload, 1)) (hq : pc + 1 = q) (K : AtW p l e R s m args below meth c n0 Q h cells slots (mkF m q L (v :: S))) : AtW p l e R s m args below meth c n0 Q h cells slots (mkF m pc L (.int j :: .ref a :: S)) := by
  subst hq hj
  obtain ⟨hlt, k, cl, Ar, -, hS, hM, H, -⟩ := A
  obtain ⟨hi, hg⟩ := List.getElem?_eq_some_iff.mp hv
  have e1 := ofNat_nat (n := i) (by omega)
  have e2 := ofNat_nat hlt
  have hin : ¬ (Int32.ofNat i < 0 ∨ cl.slots.size ≤ (Int32.ofNat i).toNatClampNeg) := by
    rw [e1, hS, e2]; exact fun q => q.elim (ofNat_neg (by omega)) (by omega)
  refine K.goX fun T locs k n X eT t st => X.iaload C.1 (j := Int32.ofNat i) (v := v) (by rw [eT]; exact Ar.1) (State.isArrayOf_alike C.2.2.2.1.alike Ar.2.1) Ar.2.2 hin (by rw [e1, H i (by rw [hS, e2]; exact hi)]; simp [List.getD, hv]) (g := mkF m pc L (.int (Int32.ofNat i) :: .ref a :: S)) rfl rfl (hb C.2.1 hd) t st
theorem w_caload (C : Cx p s m meth c Z own bytes maxL ret nm) {a : Addr} {vs : List Value} {j : Int32} {i : Nat} {v : Value} (A : Ar Z h a .char vs) (hj : j = Int32.ofNat i) (hv : vs[i]? = some v) (hd : decode bytes pc = .ok (.caload, 1)) (hq : pc + 1 = q) (K : AtW p l e R s m args below meth c n0 Q h cells slots (mkF m q L (v :: S))) : AtW p l e R s m args below meth c n0 Q h cells slots (mkF m pc L (.int j :: .ref a :: S)) := by
  subst hq hj
  obtain ⟨hlt, k, cl, Ar, -, hS, hM, H, -⟩ := A
  obtain ⟨hi, hg⟩ := List.getElem?_eq_some_iff.mp hv
  have e1 := ofNat_nat (n := i) (by omega)
  have e2 := ofNat_nat hlt
  have hin : ¬ (Int32.ofNat i < 0 ∨ cl.slots.size ≤ (Int32.ofNat i).toNatClampNeg) := by
    rw [e1, hS, e2]; exact fun q => q.elim (ofNat_neg (by omega)) (by omega)
  refine K.goX fun T locs k n X eT t st => X.caload C.1 (j := Int32.ofNat i) (v := v) (by rw [eT]; exact Ar.1) (State.isArrayOf_alike C.2.2.2.1.alike Ar.2.1) Ar.2.2 hin (by rw [e1, H i (by rw [hS, e2]; exact hi)]; simp [List.getD, hv]) (g := mkF m pc L (.int (Int32.ofNat i) :: .ref a :: S)) rfl rfl (hb C.2.1 hd) t st
theorem w_baload (C : Cx p s m meth c Z own bytes maxL ret nm) {a : Addr} {vs : List Value} {j : Int32} {i : Nat} {v : Value} (A : Ar Z h a .byte vs) (hj : j = Int32.ofNat i) (hv : vs[i]? = some v) (hd : decode bytes pc = .ok (.baload, 1)) (hq : pc + 1 = q) (K : AtW p l e R s m args below meth c n0 Q h cells slots (mkF m q L (v :: S))) : AtW p l e R s m args below meth c n0 Q h cells slots (mkF m pc L (.int j :: .ref a :: S)) := by
  subst hq hj
  obtain ⟨hlt, k, cl, Ar, -, hS, hM, H, -⟩ := A
  obtain ⟨hi, hg⟩ := List.getElem?_eq_some_iff.mp hv
  have e1 := ofNat_nat (n := i) (by omega)
  have e2 := ofNat_nat hlt
  have hin : ¬ (Int32.ofNat i < 0 ∨ cl.slots.size ≤ (Int32.ofNat i).toNatClampNeg) := by
    rw [e1, hS, e2]; exact fun q => q.elim (ofNat_neg (by omega)) (by omega)
  refine K.goX fun T locs k n X eT t st => X.baloadBytes C.1 (j := Int32.ofNat i) (v := v) (by rw [eT]; exact Ar.1) (State.isArrayOf_alike C.2.2.2.1.alike Ar.2.1) Ar.2.2 hin (by rw [e1, H i (by rw [hS, e2]; exact hi)]; simp [List.getD, hv]) (g := mkF m pc L (.int (Int32.ofNat i) :: .ref a :: S)) rfl rfl (hb C.2.1 hd) t st
theorem w_laload (C : Cx p s m meth c Z own bytes maxL ret nm) {a : Addr} {vs : List Value} {j : Int32} {i : Nat} {v : Value} (A : Ar Z h a .long vs) (hj : j = Int32.ofNat i) (hv : vs[i]? = some v) (hd : decode bytes pc = .ok (.laload, 1)) (hq : pc + 1 = q) (K : AtW p l e R s m args below meth c n0 Q h cells slots (mkF m q L (v :: S))) : AtW p l e R s m args below meth c n0 Q h cells slots (mkF m pc L (.int j :: .ref a :: S)) := by
  subst hq hj
  obtain ⟨hlt, k, cl, Ar, -, hS, hM, H, -⟩ := A
  obtain ⟨hi, hg⟩ := List.getElem?_eq_some_iff.mp hv
  have e1 := ofNat_nat (n := i) (by omega)
  have e2 := ofNat_nat hlt
  have hin : ¬ (Int32.ofNat i < 0 ∨ cl.slots.size ≤ (Int32.ofNat i).toNatClampNeg) := by
    rw [e1, hS, e2]; exact fun q => q.elim (ofNat_neg (by omega)) (by omega)
  refine K.goX fun T locs k n X eT t st => X.laload C.1 (j := Int32.ofNat i) (v := v) (by rw [eT]; exact Ar.1) (State.isArrayOf_alike C.2.2.2.1.alike Ar.2.1) Ar.2.2 hin (by rw [e1, H i (by rw [hS, e2]; exact hi)]; simp [List.getD, hv]) (g := mkF m pc L (.int (Int32.ofNat i) :: .ref a :: S)) rfl rfl (hb C.2.1 hd) t st
theorem w_aaload (C : Cx p s m meth c Z own bytes maxL ret nm) {a : Addr} {ty : FieldType} {vs : List Value} {j : Int32} {i : Nat} {v : Value} (A : Ar Z h a ty vs) (hj : j = Int32.ofNat i) (hv : vs[i]? = some v) (hr : ty.isReference = true) (hd : decode bytes pc = .ok (.aaload, 1)) (hq : pc + 1 = q) (K : AtW p l e R s m args below meth c n0 Q h cells slots (mkF m q L (v :: S))) : AtW p l e R s m args below meth c n0 Q h cells slots (mkF m pc L (.int j :: .ref a :: S)) := by
  subst hq hj
  obtain ⟨hlt, k, cl, Ar, -, hS, hM, H, -⟩ := A
  obtain ⟨hi, hg⟩ := List.getElem?_eq_some_iff.mp hv
  have e1 := ofNat_nat (n := i) (by omega)
  have e2 := ofNat_nat hlt
  have hin : ¬ (Int32.ofNat i < 0 ∨ cl.slots.size ≤ (Int32.ofNat i).toNatClampNeg) := by
    rw [e1, hS, e2]; exact fun q => q.elim (ofNat_neg (by omega)) (by omega)
  refine K.goX fun T locs k n X eT t st => X.aaload C.1 (j := Int32.ofNat i) (v := v) (by rw [eT]; exact Ar.1) (State.isArrayOf_alike C.2.2.2.1.alike Ar.2.1) hr Ar.2.2 hin (by rw [e1, H i (by rw [hS, e2]; exact hi)]; simp [List.getD, hv]) (g := mkF m pc L (.int (Int32.ofNat i) :: .ref a :: S)) rfl rfl (hb C.2.1 hd) t st
theorem w_iastore (C : Cx p s m meth c Z own bytes maxL ret nm) {a : Addr} {vs : List Value} {j : Int32} {i : Nat} {x : Int32} (A : Ar Z h a .int vs) (hj : j = Int32.ofNat i) (hi : i < vs.length) (hge : n0 ≤ a) (hd : decode bytes pc = .ok (.iastore, 1)) (hq : pc + 1 = q)
    (K : ∀ h', Wr h h' a i (.int x) → Ar Z h' a .int (vs.set i (.int x)) → AtW p l e R s m args below meth c n0 Q h' cells slots (mkF m q L S)) : AtW p l e R s m args below meth c n0 Q h cells slots (mkF m pc L (.int x :: .int j :: .ref a :: S)) := by
  subst hq hj
  intro T locs k n' X hk hn' eT N
  obtain ⟨hlt, k', cl, Ar, q1, hS, hM, H, G⟩ := A
  have e1 := ofNat_nat (n := i) (by omega)
  have e2 := ofNat_nat hlt
  have hin : ¬ (Int32.ofNat i < 0 ∨ cl.slots.size ≤ (Int32.ofNat i).toNatClampNeg) := by
    rw [e1, hS, e2]; exact fun q => q.elim (ofNat_neg (by omega)) (by omega)
  obtain ⟨T', h', X', e', W, st⟩ := stI X C.1 C.2.2.2.1 eT Ar (j := Int32.ofNat i) (x := x) hin (g := mkF m pc L (.int x :: .int (Int32.ofNat i) :: .ref a :: S)) rfl rfl (hb C.2.1 hd)
  have V := Arv.set Ar q1 hS hM H G (rfl) W i e1 hi
  obtain ⟨t, o, r1, r⟩ := K h' (by rw [e1] at W; exact W) ⟨by simpa using hlt, k', by rw [List.length_set]; exact V⟩ T' _ k n' X' hk hn' e' (Fr.snoc X' N hge)
  exact ⟨t, o, st _ r1, r⟩
theorem w_castore (C : Cx p s m meth c Z own bytes maxL ret nm) {a : Addr} {vs : List Value} {j : Int32} {i : Nat} {x : Int32} {z : Int32} (hz : nar .char x = z) (A : Ar Z h a .char vs) (hj : j = Int32.ofNat i) (hi : i < vs.length) (hge : n0 ≤ a) (hd : decode bytes pc = .ok (.castore, 1)) (hq : pc + 1 = q)
    (K : ∀ h', Wr h h' a i (.int z) → Ar Z h' a .char (vs.set i (.int z)) → AtW p l e R s m args below meth c n0 Q h' cells slots (mkF m q L S)) : AtW p l e R s m args below meth c n0 Q h cells slots (mkF m pc L (.int x :: .int j :: .ref a :: S)) := by
  subst hq hj hz
  intro T locs k n' X hk hn' eT N
  obtain ⟨hlt, k', cl, Ar, q1, hS, hM, H, G⟩ := A
  have e1 := ofNat_nat (n := i) (by omega)
  have e2 := ofNat_nat hlt
  have hin : ¬ (Int32.ofNat i < 0 ∨ cl.slots.size ≤ (Int32.ofNat i).toNatClampNeg) := by
    rw [e1, hS, e2]; exact fun q => q.elim (ofNat_neg (by omega)) (by omega)
  obtain ⟨T', h', X', e', W, st⟩ := stC X C.1 C.2.2.2.1 eT Ar (j := Int32.ofNat i) (x := x) hin (g := mkF m pc L (.int x :: .int (Int32.ofNat i) :: .ref a :: S)) rfl rfl (hb C.2.1 hd)
  have V := Arv.set Ar q1 hS hM H G (fits_nar_char _) W i e1 hi
  obtain ⟨t, o, r1, r⟩ := K h' (by rw [e1] at W; exact W) ⟨by simpa using hlt, k', by rw [List.length_set]; exact V⟩ T' _ k n' X' hk hn' e' (Fr.snoc X' N hge)
  exact ⟨t, o, st _ r1, r⟩
theorem w_bastore (C : Cx p s m meth c Z own bytes maxL ret nm) {a : Addr} {vs : List Value} {j : Int32} {i : Nat} {x : Int32} {z : Int32} (hz : nar .byte x = z) (A : Ar Z h a .byte vs) (hj : j = Int32.ofNat i) (hi : i < vs.length) (hge : n0 ≤ a) (hd : decode bytes pc = .ok (.bastore, 1)) (hq : pc + 1 = q)
    (K : ∀ h', Wr h h' a i (.int z) → Ar Z h' a .byte (vs.set i (.int z)) → AtW p l e R s m args below meth c n0 Q h' cells slots (mkF m q L S)) : AtW p l e R s m args below meth c n0 Q h cells slots (mkF m pc L (.int x :: .int j :: .ref a :: S)) := by
  subst hq hj hz
  intro T locs k n' X hk hn' eT N
  obtain ⟨hlt, k', cl, Ar, q1, hS, hM, H, G⟩ := A
  have e1 := ofNat_nat (n := i) (by omega)
  have e2 := ofNat_nat hlt
  have hin : ¬ (Int32.ofNat i < 0 ∨ cl.slots.size ≤ (Int32.ofNat i).toNatClampNeg) := by
    rw [e1, hS, e2]; exact fun q => q.elim (ofNat_neg (by omega)) (by omega)
  obtain ⟨T', h', X', e', W, st⟩ := stB X C.1 C.2.2.2.1 eT Ar (j := Int32.ofNat i) (x := x) hin (g := mkF m pc L (.int x :: .int (Int32.ofNat i) :: .ref a :: S)) rfl rfl (hb C.2.1 hd)
  have V := Arv.set Ar q1 hS hM H G (fits_nar_byte _) W i e1 hi
  obtain ⟨t, o, r1, r⟩ := K h' (by rw [e1] at W; exact W) ⟨by simpa using hlt, k', by rw [List.length_set]; exact V⟩ T' _ k n' X' hk hn' e' (Fr.snoc X' N hge)
  exact ⟨t, o, st _ r1, r⟩
theorem w_lastore (C : Cx p s m meth c Z own bytes maxL ret nm) {a : Addr} {vs : List Value} {j : Int32} {i : Nat} {x : Int64} (A : Ar Z h a .long vs) (hj : j = Int32.ofNat i) (hi : i < vs.length) (hge : n0 ≤ a) (hd : decode bytes pc = .ok (.lastore, 1)) (hq : pc + 1 = q)
    (K : ∀ h', Wr h h' a i (.long x) → Ar Z h' a .long (vs.set i (.long x)) → AtW p l e R s m args below meth c n0 Q h' cells slots (mkF m q L S)) : AtW p l e R s m args below meth c n0 Q h cells slots (mkF m pc L (.long x :: .int j :: .ref a :: S)) := by
  subst hq hj
  intro T locs k n' X hk hn' eT N
  obtain ⟨hlt, k', cl, Ar, q1, hS, hM, H, G⟩ := A
  have e1 := ofNat_nat (n := i) (by omega)
  have e2 := ofNat_nat hlt
  have hin : ¬ (Int32.ofNat i < 0 ∨ cl.slots.size ≤ (Int32.ofNat i).toNatClampNeg) := by
    rw [e1, hS, e2]; exact fun q => q.elim (ofNat_neg (by omega)) (by omega)
  obtain ⟨T', h', X', e', W, st⟩ := stJ X C.1 C.2.2.2.1 eT Ar (j := Int32.ofNat i) (x := x) hin (g := mkF m pc L (.long x :: .int (Int32.ofNat i) :: .ref a :: S)) rfl rfl (hb C.2.1 hd)
  have V := Arv.set Ar q1 hS hM H G (rfl) W i e1 hi
  obtain ⟨t, o, r1, r⟩ := K h' (by rw [e1] at W; exact W) ⟨by simpa using hlt, k', by rw [List.length_set]; exact V⟩ T' _ k n' X' hk hn' e' (Fr.snoc X' N hge)
  exact ⟨t, o, st _ r1, r⟩
theorem w_retZ (C : Cx p s m meth c Z own bytes maxL ret nm) {t : FieldType} {x z : Int32} (hret : ret = some t) (ht : t = .boolean ∨ t = .byte ∨ t = .char ∨ t = .short) (hz : nar t x = z) (hd : decode bytes pc = .ok (.ireturn, 1)) (hc : cells ≤ R.cells) (hs : slots ≤ R.slots) (hQ : Q (some (.int z)) h) : AtW p l e R s m args below meth c n0 Q h cells slots (mkF m pc L (.int x :: S)) := by
  subst hz
  intro T locs k n X hk hn eT N
  obtain ⟨fs, hr, hrun, hended, hW, hsame⟩ := X.leave (v := some (.int (nar t x))) (fun h => by rw [C.2.2.2.2.2.1, hret] at h; cases h) C.2.2.2.2.2.2.1
  refine ⟨_, _, retN X C.1 (t := t) (C.2.2.2.2.2.1.trans hret) ht (hb C.2.1 hd) hr, hrun, hended, _, _, rfl, ⟨N, ?_⟩, ⟨_, rfl⟩, hW, hsame.mono (Nat.le_trans hk hc) (Nat.le_trans hn hs)⟩
  show Q _ T.heap
  rw [eT]; exact hQ
theorem w_ret (C : Cx p s m meth c Z own bytes maxL ret nm) {t : FieldType} {v : Value} {i : Instr} (hret : ret = some t) (hn' : narrow t v = v)
    (hi : (i = .ireturn ∧ (t = .int ∨ t = .boolean ∨ t = .byte ∨ t = .char ∨ t = .short) ∧ ∃ z, v = .int z) ∨ (i = .lreturn ∧ t = .long ∧ ∃ z, v = .long z) ∨ (i = .dreturn ∧ t = .double ∧ ∃ z, v = .double z) ∨ (i = .freturn ∧ t = .float ∧ ∃ z, v = .float z) ∨ (i = .areturn ∧ t.isReference = true ∧ v.isRef = true))
    (hd : decode bytes pc = .ok (i, 1)) (hc : cells ≤ R.cells) (hs : slots ≤ R.slots) (hQ : Q (some v) h) : AtW p l e R s m args below meth c n0 Q h cells slots (mkF m pc L (v :: S)) := by
  intro T locs k n X hk hn eT N
  obtain ⟨fs, hr, hrun, hended, hW, hsame⟩ := X.leave (v := some v) (fun h => by rw [C.2.2.2.2.2.1, hret] at h; cases h) C.2.2.2.2.2.2.1
  refine ⟨_, _, retOut X C.1 (t := t) (C.2.2.2.2.2.1.trans hret) hn' hi (hb C.2.1 hd) hr, hrun, hended, _, _, rfl, ⟨N, ?_⟩, ⟨_, rfl⟩, hW, hsame.mono (Nat.le_trans hk hc) (Nat.le_trans hn hs)⟩
  show Q _ T.heap
  rw [eT]; exact hQ
theorem w_retI (C : Cx p s m meth c Z own bytes maxL ret nm) {x : Int32} (hret : ret = some .int) (hd : decode bytes pc = .ok (.ireturn, 1)) (hc : cells ≤ R.cells) (hs : slots ≤ R.slots) (hQ : Q (some (.int x)) h) : AtW p l e R s m args below meth c n0 Q h cells slots (mkF m pc L (.int x :: S)) :=
  w_ret C hret rfl (Or.inl ⟨rfl, Or.inl rfl, _, rfl⟩) hd hc hs hQ
theorem w_retJ (C : Cx p s m meth c Z own bytes maxL ret nm) {x : Int64} (hret : ret = some .long) (hd : decode bytes pc = .ok (.lreturn, 1)) (hc : cells ≤ R.cells) (hs : slots ≤ R.slots) (hQ : Q (some (.long x)) h) : AtW p l e R s m args below meth c n0 Q h cells slots (mkF m pc L (.long x :: S)) :=
  w_ret C hret rfl (Or.inr (Or.inl ⟨rfl, rfl, _, rfl⟩)) hd hc hs hQ
theorem w_retA (C : Cx p s m meth c Z own bytes maxL ret nm) {t : FieldType} {v : Value} (hret : ret = some t) (ht : t.isReference = true) (hv : v.isRef = true) (hd : decode bytes pc = .ok (.areturn, 1)) (hc : cells ≤ R.cells) (hs : slots ≤ R.slots) (hQ : Q (some v) h) : AtW p l e R s m args below meth c n0 Q h cells slots (mkF m pc L (v :: S)) :=
  w_ret C hret (by rcases ref_cases hv with rfl | ⟨a, rfl⟩ <;> cases t <;> first | rfl | cases ht) (Or.inr (Or.inr (Or.inr (Or.inr ⟨rfl, ht, hv⟩)))) hd hc hs hQ
theorem w_retV (C : Cx p s m meth c Z own bytes maxL ret nm) (hret : ret = none) (hd : decode bytes pc = .ok (.return_, 1)) (hc : cells ≤ R.cells) (hs : slots ≤ R.slots) (hQ : Q none h) : AtW p l e R s m args below meth c n0 Q h cells slots (mkF m pc L []) := by
  intro T locs k n X hk hn eT N
  obtain ⟨fs, hr, hrun, hended, hW, hsame⟩ := X.leave (v := none) (fun _ => rfl) C.2.2.2.2.2.2.1
  refine ⟨_, _, X.returnOut C.1 (C.2.2.2.2.2.1.trans hret) (hb C.2.1 hd) hr, hrun, hended, _, _, rfl, ⟨N, ?_⟩, ⟨_, rfl⟩, hW, hsame.mono (Nat.le_trans hk hc) (Nat.le_trans hn hs)⟩
  show Q _ T.heap
  rw [eT]; exact hQ

theorem w_callS (C : Cx p s m meth c Z own bytes maxL ret nm) {y : MethodName} {i : Nat} {argsL : List Value} {bytesY : ByteArray} {maxY : Nat} {retY : Option FieldType} {rm : Room} {Qy : Option Value → Heap → Prop} (w1 : (Jvm.Cond.methodLink own i y).before a0 Z = true) (w2 : (Jvm.Cond.static y).before a0 Z = true) (wz : (Jvm.Cond.initialized y.cls).before a0 Z = true) (wc : (Jvm.Cond.code y bytesY maxY retY).before a0 Z = true)
    (hy : y.cls ≠ "java/lang/invoke/MethodHandle" ∧ y.cls ≠ "java/lang/invoke/VarHandle") (ct : Ct [] l Z n0 y bytesY maxY retY rm argsL.toArray h Qy) {S' : List Value} (hS : S' = argsL.reverse ++ S) (hlen : ∀ sig, parseMethodDescriptor y.desc = some sig → argsL.length = sig.parameters.length) (hL : L.size = maxL) (hf : rm.frames + 1 ≤ R.frames) {W : Nat} (hW : (S.map fun v => v.category).sum ≤ W) (hlo : W + (maxY + 11) + rm.locals ≤ R.locals) {cells' slots' : Nat} (hc1 : cells + rm.cells = cells') (hs1 : slots + rm.slots = slots') (hc : cells' ≤ R.cells) (hl : slots' ≤ R.slots)
    (hd : decode bytes pc = .ok (.invokestatic i, 3)) (hq : pc + 3 = q) (K : ∀ v h', Qy v h' → AtW p l e R s m args below meth c n0 Q h' cells' slots' (mkF m q L (v.toList ++ S))) : AtW p l e R s m args below meth c n0 Q h cells slots (mkF m pc L S') := by
  subst hq hc1 hs1
  intro T locs k n' X hk hn' eT N
  obtain ⟨v, _, ⟨T', L', k', n''⟩, -, X', ⟨Lc, hQ, hl', hc', hs'⟩, st⟩ := Jvm.LawKit.callS X C.1 (y := y) C.2.2.2.2.1 (mvT C.2.2.2.1 w1) (mvT C.2.2.2.1 w2) (mvT C.2.2.2.1 wz) (mvT C.2.2.2.1 wc) hy (backOf (W := W) (Q := fun v h L => Fr n0 L ∧ Qy v h) ct C.2.2.2.1 wc wz hf hlo) (g := mkF m pc L S') rfl (hL.trans C.2.2.1.symm) (argsL := argsL) (rest := S) hlen hS (by show 2 * 0 + _ ≤ _; omega) (hb C.2.1 hd) (fun _ _ => ⟨rfl, eT, (by show k + _ ≤ _; omega), (by show n' + _ ≤ _; omega)⟩)
  dsimp only [Pt.U, Pt.locs, Pt.cells, Pt.slots] at X' hl' hc' hs' st hQ
  subst hl' hc' hs'
  obtain ⟨t, o, r1, r⟩ := K v T'.heap hQ.2 T' _ _ _ X' (by omega) (by omega) rfl (Fr.app N hQ.1)
  exact ⟨t, o, st _ r1, r⟩
theorem w_callI (C : Cx p s m meth c Z own bytes maxL ret nm) {y : MethodName} {i : Nat} {a : Addr} {argsL : List Value} {bytesY : ByteArray} {maxY : Nat} {rm : Room} {Qy : Option Value → Heap → Prop} (hnm : y.name = "<init>") (w1 : (Jvm.Cond.methodLink own i y).before a0 Z = true) (w2 : (Jvm.Cond.instanceMethod y).before a0 Z = true) (wz : (Jvm.Cond.initialized y.cls).before a0 Z = true) (wc : (Jvm.Cond.code y bytesY maxY none).before a0 Z = true)
    (hy : y.cls ≠ "java/lang/invoke/MethodHandle" ∧ y.cls ≠ "java/lang/invoke/VarHandle") (ct : Ct [] l Z n0 y bytesY maxY none rm (.ref a :: argsL).toArray h Qy) {S' : List Value} (hS : S' = argsL.reverse ++ .ref a :: S) (hlen : ∀ sig, parseMethodDescriptor y.desc = some sig → argsL.length = sig.parameters.length) (hL : L.size = maxL) (hf : rm.frames + 1 ≤ R.frames) {W : Nat} (hW : (S.map fun v => v.category).sum ≤ W) (hlo : W + (maxY + 11) + rm.locals ≤ R.locals) {cells' slots' : Nat} (hc1 : cells + rm.cells = cells') (hs1 : slots + rm.slots = slots') (hc : cells' ≤ R.cells) (hl : slots' ≤ R.slots)
    (hd : decode bytes pc = .ok (.invokespecial i, 3)) (hq : pc + 3 = q) (K : ∀ v h', Qy v h' → AtW p l e R s m args below meth c n0 Q h' cells' slots' (mkF m q L (v.toList ++ S))) : AtW p l e R s m args below meth c n0 Q h cells slots (mkF m pc L S') := by
  subst hq hc1 hs1
  intro T locs k n' X hk hn' eT N
  obtain ⟨v, _, ⟨T', L', k', n''⟩, -, X', ⟨Lc, hQ, hl', hc', hs'⟩, st⟩ := X.specialBack C.1 (y := y) hnm C.2.2.2.2.1 (mvT C.2.2.2.1 w1) (mvT C.2.2.2.1 w2) (mvT C.2.2.2.1 wc) hy (backOf (W := W) (Q := fun v h L => Fr n0 L ∧ Qy v h) ct C.2.2.2.1 wc wz hf hlo) (g := mkF m pc L S') rfl (hL.trans C.2.2.1.symm) (Steps.refl _) (a := a) (argsL := argsL) (rest := S) hlen hS (by show 2 * 0 + _ ≤ _; omega) (hb C.2.1 hd) (fun _ _ => ⟨rfl, eT, (by show k + _ ≤ _; omega), (by show n' + _ ≤ _; omega)⟩)
  dsimp only [Pt.U, Pt.locs, Pt.cells, Pt.slots] at X' hl' hc' hs' st hQ
  subst hl' hc' hs'
  obtain ⟨t, o, r1, r⟩ := K v T'.heap hQ.2 T' _ _ _ X' (by omega) (by omega) rfl (Fr.app N hQ.1)
  exact ⟨t, o, st.trans r1, r⟩
theorem w_callV (C : Cx p s m meth c Z own bytes maxL ret nm) {y z : MethodName} {Cl : String} {i : Nat} {a : Addr} {argsL : List Value} {bytesY : ByteArray} {maxY : Nat} {retY : Option FieldType} {rm : Room} {Qy : Option Value → Heap → Prop} (E : Exa Z h a Cl) (w1 : (Jvm.Cond.methodLink own i y).before a0 Z = true) (w2 : (Jvm.Cond.declares y).before a0 Z = true) (hnf : NotFace s y) (w3 : (Jvm.Cond.selects Cl y z).before a0 Z = true) (w4 : (Jvm.Cond.instanceMethod z).before a0 Z = true) (wz : (Jvm.Cond.initialized z.cls).before a0 Z = true) (wc : (Jvm.Cond.code z bytesY maxY retY).before a0 Z = true)
    (hy : y.cls ≠ "java/lang/invoke/MethodHandle" ∧ y.cls ≠ "java/lang/invoke/VarHandle") (ct : Ct [] l Z n0 z bytesY maxY retY rm (.ref a :: argsL).toArray h Qy) {S' : List Value} (hS : S' = argsL.reverse ++ .ref a :: S) (hlen : ∀ sig, parseMethodDescriptor y.desc = some sig → argsL.length = sig.parameters.length) (hL : L.size = maxL) (hf : rm.frames + 1 ≤ R.frames) {W : Nat} (hW : (S.map fun v => v.category).sum ≤ W) (hlo : W + (maxY + 11) + rm.locals ≤ R.locals) {cells' slots' : Nat} (hc1 : cells + rm.cells = cells') (hs1 : slots + rm.slots = slots') (hc : cells' ≤ R.cells) (hl : slots' ≤ R.slots)
    (hd : decode bytes pc = .ok (.invokevirtual i, 3)) (hq : pc + 3 = q) (K : ∀ v h', Qy v h' → AtW p l e R s m args below meth c n0 Q h' cells' slots' (mkF m q L (v.toList ++ S))) : AtW p l e R s m args below meth c n0 Q h cells slots (mkF m pc L S') := by
  subst hq hc1 hs1
  intro T locs k n' X hk hn' eT N
  obtain ⟨cB, kB, q1, q2, q3⟩ := isOf C.2.2.2.1 eT E
  obtain ⟨v, _, ⟨T', L', k', n''⟩, -, X', ⟨Lc, hQ, hl', hc', hs'⟩, st⟩ := X.virtualBack C.1 (y := y) (z := z) C.2.2.2.2.1 (mvT C.2.2.2.1 w1) (mvT C.2.2.2.1 w2) hnf (mvT C.2.2.2.1 w3) (mvT C.2.2.2.1 w4) hy (backOf (W := W) (Q := fun v h L => Fr n0 L ∧ Qy v h) ct C.2.2.2.1 wc wz hf hlo) q1 q3 (g := mkF m pc L S') rfl (hL.trans C.2.2.1.symm) (Steps.refl _) (argsL := argsL) (rest := S) hlen hS (by show 2 * 0 + _ ≤ _; omega) (hb C.2.1 hd) (fun _ _ => ⟨rfl, eT, (by show k + _ ≤ _; omega), (by show n' + _ ≤ _; omega)⟩)
  dsimp only [Pt.U, Pt.locs, Pt.cells, Pt.slots] at X' hl' hc' hs' st hQ
  subst hl' hc' hs'
  obtain ⟨t, o, r1, r⟩ := K v T'.heap hQ.2 T' _ _ _ X' (by omega) (by omega) rfl (Fr.app N hQ.1)
  exact ⟨t, o, st.trans r1, r⟩
theorem w_nf (C : Cx p s m meth c Z own bytes maxL ret nm) {y : MethodName} {Cl : String} (w3 : (Jvm.Cond.selects Cl y y).before a0 Z = true) : NotFace s y := notFace_of_selects (args := #[]) (mvT C.2.2.2.1 w3)
theorem w_callP (C : Cx p s m meth c Z own bytes maxL ret nm) {y : MethodName} {Cl : String} {i : Nat} {a : Addr} {argsL : List Value} {bytesY : ByteArray} {maxY : Nat} {retY : Option FieldType} {rm : Room} {Qy : Option Value → Heap → Prop} (E : Exa Z h a Cl) (w1 : (Jvm.Cond.methodLink own i y).before a0 Z = true) (w4 : (Jvm.Cond.instanceMethod y).before a0 Z = true) (hni : NI s y.cls) (w5 : (Jvm.Cond.privateMethod y).before a0 Z = true) (wz : (Jvm.Cond.initialized y.cls).before a0 Z = true) (wc : (Jvm.Cond.code y bytesY maxY retY).before a0 Z = true)
    (hy : y.cls ≠ "java/lang/invoke/MethodHandle" ∧ y.cls ≠ "java/lang/invoke/VarHandle") (ct : Ct [] l Z n0 y bytesY maxY retY rm (.ref a :: argsL).toArray h Qy) {S' : List Value} (hS : S' = argsL.reverse ++ .ref a :: S) (hlen : ∀ sig, parseMethodDescriptor y.desc = some sig → argsL.length = sig.parameters.length) (hL : L.size = maxL) (hf : rm.frames + 1 ≤ R.frames) {W : Nat} (hW : (S.map fun v => v.category).sum ≤ W) (hlo : W + (maxY + 11) + rm.locals ≤ R.locals) {cells' slots' : Nat} (hc1 : cells + rm.cells = cells') (hs1 : slots + rm.slots = slots') (hc : cells' ≤ R.cells) (hl : slots' ≤ R.slots)
    (hd : decode bytes pc = .ok (.invokevirtual i, 3)) (hq : pc + 3 = q) (K : ∀ v h', Qy v h' → AtW p l e R s m args below meth c n0 Q h' cells' slots' (mkF m q L (v.toList ++ S))) : AtW p l e R s m args below meth c n0 Q h cells slots (mkF m pc L S') := by
  subst hq hc1 hs1
  intro T locs k n' X hk hn' eT N
  obtain ⟨cq, q1, q2⟩ := E.cell
  obtain ⟨cN, kN, n1, n2, n3⟩ := hni
  have hpv := Cond.privateMethod_at (mvP C.2.2.2.1 w5 (args := #[]))
  obtain ⟨v, _, ⟨T', L', k', n''⟩, -, X', ⟨Lc, hQ, hl', hc', hs'⟩, st⟩ := X.privateBack C.1 (y := y) C.2.2.2.2.1 (mvT C.2.2.2.1 w1) (mvT C.2.2.2.1 w4) (selects_self_of_private n1 n2 n3 hpv (mvT C.2.2.2.1 w4) hy) hpv (mvT C.2.2.2.1 wc) hy (backOf (W := W) (Q := fun v h L => Fr n0 L ∧ Qy v h) ct C.2.2.2.1 wc wz hf hlo) (g := mkF m pc L S') rfl (hL.trans C.2.2.1.symm) (Steps.refl _) (a := a) (by rw [eT]; exact q1) q2 (argsL := argsL) (rest := S) hlen hS (by show 2 * 0 + _ ≤ _; omega) (hb C.2.1 hd) (fun _ _ => ⟨rfl, eT, (by show k + _ ≤ _; omega), (by show n' + _ ≤ _; omega)⟩)
  dsimp only [Pt.U, Pt.locs, Pt.cells, Pt.slots] at X' hl' hc' hs' st hQ
  subst hl' hc' hs'
  obtain ⟨t, o, r1, r⟩ := K v T'.heap hQ.2 T' _ _ _ X' (by omega) (by omega) rfl (Fr.app N hQ.1)
  exact ⟨t, o, st.trans r1, r⟩
theorem w_callB (C : Cx p s m meth c Z own bytes maxL ret nm) {y : MethodName} {i : Nat} {a : Addr} {argsL : List Value} {bytesY : ByteArray} {maxY : Nat} {W : Nat} {dc ds : Nat} {P : Pt → Array Value → Prop} {Qy : Option Value → Heap → List Loc → Prop} (hnm : y.name = "<init>") (w1 : (Jvm.Cond.methodLink own i y).before a0 Z = true) (w2 : (Jvm.Cond.instanceMethod y).before a0 Z = true) (wc : (Jvm.Cond.code y bytesY maxY none).before a0 Z = true)
    (hy : y.cls ≠ "java/lang/invoke/MethodHandle" ∧ y.cls ≠ "java/lang/invoke/VarHandle") (bk : Back l R p e below s args y 3 W (fun A a' => a' = (Value.ref a :: argsL).toArray ∧ A.U.heap = h ∧ A.cells + dc ≤ R.cells ∧ A.slots + ds ≤ R.slots) (fun A _ v B => ∃ L, Qy v B.U.heap L ∧ B.locs = A.locs ++ L ∧ B.cells = A.cells + dc ∧ B.slots = A.slots + ds))
    {S' : List Value} (hS : S' = argsL.reverse ++ .ref a :: S) (hlen : ∀ sig, parseMethodDescriptor y.desc = some sig → argsL.length = sig.parameters.length) (hL : L.size = maxL) (hW : (S.map fun v => v.category).sum ≤ W) {cells' slots' : Nat} (hc1 : cells + dc = cells') (hs1 : slots + ds = slots') (hc : cells' ≤ R.cells) (hl : slots' ≤ R.slots)
    (hd : decode bytes pc = .ok (.invokespecial i, 3)) (hq : pc + 3 = q) (K : ∀ v h' Lc, Qy v h' Lc → Fr n0 Lc ∧ AtW p l e R s m args below meth c n0 Q h' cells' slots' (mkF m q L (v.toList ++ S))) : AtW p l e R s m args below meth c n0 Q h cells slots (mkF m pc L S') := by
  subst hq hc1 hs1
  intro T locs k n' X hk hn' eT N
  obtain ⟨v, _, ⟨T', L', k', n''⟩, -, X', ⟨Lc, hQ, hl', hc', hs'⟩, st⟩ := X.specialBack C.1 (y := y) hnm C.2.2.2.2.1 (mvT C.2.2.2.1 w1) (mvT C.2.2.2.1 w2) (mvT C.2.2.2.1 wc) hy bk (g := mkF m pc L S') rfl (hL.trans C.2.2.1.symm) (Steps.refl _) (a := a) (argsL := argsL) (rest := S) hlen hS (by show 2 * 0 + _ ≤ _; omega) (hb C.2.1 hd) (fun _ _ => ⟨rfl, eT, (by show k + _ ≤ _; omega), (by show n' + _ ≤ _; omega)⟩)
  dsimp only [Pt.U, Pt.locs, Pt.cells, Pt.slots] at X' hl' hc' hs' st hQ
  subst hl' hc' hs'
  obtain ⟨N2, K2⟩ := K v T'.heap Lc hQ
  obtain ⟨t, o, r1, r⟩ := K2 T' _ _ _ X' (by omega) (by omega) rfl (Fr.app N N2)
  exact ⟨t, o, st.trans r1, r⟩

end Wk
-- CUT
theorem own_lt {x y : Int32} : x < y ↔ x.toInt < y.toInt := Int32.lt_iff_toInt_lt
theorem own_eq {x y : Int32} : x = y ↔ x.toInt = y.toInt := Int32.toInt_inj.symm
theorem own_nat {n : Nat} (h : n < 2 ^ 31) : (Int32.ofNat n).toInt = n := Int32.toInt_ofNat_small h
theorem own_nlt {i n : Nat} (hi : i < 2 ^ 31) (hn : n < 2 ^ 31) : Int32.ofNat i < Int32.ofNat n ↔ i < n := by rw [own_lt, own_nat hi, own_nat hn]; omega
theorem own_neq {i n : Nat} (hi : i < 2 ^ 31) (hn : n < 2 ^ 31) : Int32.ofNat i = Int32.ofNat n ↔ i = n := by rw [own_eq, own_nat hi, own_nat hn]; omega
theorem own_one (i : Nat) : Int32.ofNat i + (1 : Int32) = Int32.ofNat (i + 1) := (Int32.ofNat_add i 1).symm
theorem own_shr0 (x : Int32) : x >>> ((0 : Int32) &&& 31) = x := by
  rw [own_eq, c_ishr x 0 0 (by decide)]; simp
theorem own_b8 {P : Int32 → Prop} (h : ∀ k : Fin 256, P (Int32.ofNat k.val)) {x : Int32} (h0 : ¬ x < 0) (h1 : ¬ 255 < x) : P x := by
  rw [own_lt] at h0 h1
  have e0 : (0 : Int32).toInt = 0 := rfl
  have e1 : (255 : Int32).toInt = 255 := rfl
  obtain ⟨k, hk⟩ : ∃ k : Nat, x.toInt = k := ⟨x.toInt.toNat, by omega⟩
  have hx : x = Int32.ofNat k := own_eq.mpr (by rw [hk, own_nat (by omega)])
  rw [hx]
  exact h ⟨k, by omega⟩
theorem own_lo8 {x : Int32} (h0 : ¬ x < 0) (h1 : ¬ 255 < x) : (x.toInt8.toInt32 &&& 255).toUInt32.toUInt16.toUInt32.toInt32 = x := own_b8 (P := fun x => (x.toInt8.toInt32 &&& 255).toUInt32.toUInt16.toUInt32.toInt32 = x) (by decide +kernel) h0 h1
theorem own_nar {x : Int32} (h0 : ¬ x < 0) (h1 : ¬ 255 < x) : nar .char x = x := own_b8 (P := fun x => nar .char x = x) (by decide +kernel) h0 h1
theorem own_nar8 (x : Int32) : nar .byte x.toInt8.toInt32 = x.toInt8.toInt32 := by show x.toInt8.toInt32.toInt8.toInt32 = x.toInt8.toInt32; simp
/-- chars as a Latin-1 String's bytes -/
def own_bs (cs : List Int32) : List Value := cs.map fun c => .int c.toInt8.toInt32
theorem own_bs_len (cs : List Int32) : (own_bs cs).length = cs.length := by simp [own_bs]
theorem own_bs_get {cs : List Int32} {i : Nat} {c : Int32} (h : cs[i]? = some c) : (own_bs cs)[i]? = some (.int c.toInt8.toInt32) := by simp [own_bs, h]
/-- each is a Latin-1 char -/
def L1 (cs : List Int32) : Prop := ∀ c ∈ cs, ¬ c < 0 ∧ ¬ 255 < c
theorem L1.get {cs : List Int32} (h : L1 cs) {i : Nat} {c : Int32} (q : cs[i]? = some c) : ¬ c < 0 ∧ ¬ 255 < c := h c (List.mem_of_getElem? q)
/-- a String of Latin-1 chars -/
def Str (Z : State) (h : Heap) (a : Addr) (cs : List Int32) : Prop := Exa Z h a "java/lang/String" ∧ L1 cs ∧ ∃ t, Fld Z h a "java/lang/String" "coder" "B" (.int 0) ∧ Fld Z h a "java/lang/String" "value" "[B" (.ref t) ∧ Ar Z h t .byte (own_bs cs)
section K0
variable {Z : State} {h h' : Heap} {a : Addr} {n0 : Nat}
theorem Str_k0 {cs : List Int32} (F : Str Z h a cs) (K : Keep h h' []) : Str Z h' a cs := by
  obtain ⟨E, L, t, f1, f2, A⟩ := F
  exact ⟨E.keep K, L, t, f1.keep K nin0, f2.keep K nin0, A.keep K nin0⟩
theorem Ar_k0 {ty : FieldType} {vs : List Value} (F : Ar Z h a ty vs) (K : Keep h h' []) : Ar Z h' a ty vs := F.keep K nin0
theorem Fld_k0 {C n d : String} {v : Value} (F : Fld Z h a C n d v) (K : Keep h h' []) : Fld Z h' a C n d v := F.keep K nin0
theorem Exa_k0 {C : String} (F : Exa Z h a C) (K : Keep h h' []) : Exa Z h' a C := F.keep K
theorem Old_k0 (O : Old Z n0 h) (K : Keep h h' []) : Old Z n0 h' := O.keep K all0
theorem Old_le (O : Old Z n0 h) : n0 ≤ h.size := by rw [← O.1]; exact O.2.1
theorem Str.lt {cs : List Int32} (F : Str Z h a cs) : a < h.size := F.1.lt
theorem Str.len {cs : List Int32} (F : Str Z h a cs) : cs.length < 2 ^ 31 := by
  obtain ⟨-, -, t, -, -, A⟩ := F
  have := A.1; rw [own_bs_len] at this; exact this
end K0
theorem own_L1c {c : Int32} {cs : List Int32} (h : ¬ c < 0 ∧ ¬ 255 < c) (r : L1 cs) : L1 (c :: cs) := fun x hx => by
  rcases List.mem_cons.mp hx with rfl | hx
  · exact h
  · exact r x hx
theorem own_255 (x : Int32) : ¬ (x &&& 255) < 0 ∧ ¬ 255 < (x &&& 255) := by
  have h := c_mask x 255 8 (by decide) (by decide)
  rw [own_lt, own_lt, h]
  constructor <;> (have e0 : (0 : Int32).toInt = 0 := rfl; have e1 : (255 : Int32).toInt = 255 := rfl; omega)
theorem own_i2c {x : Int32} (h : ¬ x < 0 ∧ ¬ 255 < x) : x.toUInt32.toUInt16.toUInt32.toInt32 = x := own_nar h.1 h.2
theorem own_maskN (x m : Int32) (k : Nat) (hk : k ≤ 30) (hm : m.toBitVec.toNat = 2 ^ k - 1) : ∃ j : Nat, j < 2 ^ k ∧ x &&& m = Int32.ofNat j := by
  have h := c_mask x m k (by omega) hm
  have hp : (2 ^ k : Nat) ≤ 2 ^ 30 := Nat.pow_le_pow_right (by decide) hk
  have h0 : (0 : Int) < ((2 ^ k : Nat) : Int) := by have := Nat.two_pow_pos k; omega
  have h1 : 0 ≤ x.toInt % ((2 ^ k : Nat) : Int) := Int.emod_nonneg _ (by omega)
  have h2 : x.toInt % ((2 ^ k : Nat) : Int) < ((2 ^ k : Nat) : Int) := Int.emod_lt_of_pos _ h0
  refine ⟨(x &&& m).toInt.toNat, by rw [h]; omega, ?_⟩
  rw [own_eq, own_nat (by rw [h]; omega), h]
  omega
theorem own_and3 (x : Int32) : x &&& 3 = 0 ∨ x &&& 3 = 1 ∨ x &&& 3 = 2 ∨ x &&& 3 = 3 := by
  have h := c_mask x 3 2 (by decide) (by decide)
  have h2 : 0 ≤ (x &&& 3).toInt ∧ (x &&& 3).toInt < 4 := by rw [h]; constructor <;> omega
  simp only [own_eq]
  show _ = 0 ∨ _ = 1 ∨ _ = 2 ∨ _ = 3
  omega

-- CUT
/-! ## the same for walks that may load String constants -/
/-- from every state that stands (over the tables vm0 so far) at heap h with frame g; mk: every booked constant lies below it; sf: addresses that no booked constant has -/
def AtS (p : Program) (l : Launch) (e : Env) (R : Room) (s : State) (m : MethodId) (args : Array Value) (below : List Frame) (meth : Method) (c : Code) (Z : State) (EL : List (String × Nat)) (own : String) (n0 : Nat) (Q : Option Value → Heap → Prop) (mk : Nat) (sf : List Addr) (h : Heap) (cells slots : Nat) (g : JFrame) : Prop :=
  ∀ (T : State) (locs : List Loc) (k n : Nat) (vm0 : Vm) (k0 : Nat), Stand p l e R (s.setVm vm0) m args below meth c T locs k n → k ≤ cells → n ≤ slots → T.heap = h → Fr n0 locs →
    Z.Warmed39 vm0 → vm0.findClass own = some m.cls → s.Since vm0 k0 → k0 ≤ h.size → CHr Z EL s.vm s.heap vm0 h → (∀ y, Bk Z EL vm0 h y → y < mk) → (∀ x ∈ sf, x < h.size ∧ Safe Z EL vm0 h x) →
    ∃ t o, Steps p.tables e below (T.setTop g) t ∧ t.status = .running ∧ Ended t below o ∧ ∃ v L, o = .returned v ∧ (Fr n0 L ∧ Q v t.heap) ∧ CHr Z EL s.vm s.heap t.vm t.heap ∧ ReturnedEndW s o t L R.cells R.slots
def Cs (ws : List Jvm.Cond) (l : Launch) (Z : State) (EL : List (String × Nat)) (n0 : Nat) (y : MethodName) (bytes : ByteArray) (maxL : Nat) (ret : Option FieldType) (rm : Room) (as : Array Value) (h0 : Heap) (Q : Option Value → Heap → Prop) : Prop :=
  MetFree l y (head1 (Jvm.Cond.code y bytes maxL ret :: ws) rm) (fun a U => a = as ∧ Z.Warmed39 U.vm ∧ U.heap = h0 ∧ CHv Z EL U.vm h0) (fun _ _ _ _ _ => True)
    (fun _ U o U' => ∃ v L, o = .returned v ∧ (Fr n0 L ∧ Q v U'.heap) ∧ CHr Z EL U.vm U.heap U'.vm U'.heap ∧ ReturnedEndW U o U' L rm.cells rm.slots)
section WkS
variable {p : Program} {l : Launch} {e : Env} {R : Room} {s : State} {m : MethodId} {args : Array Value} {below : List Frame} {meth : Method} {c : Code} {n0 : Nat} {Q : Option Value → Heap → Prop} {h : Heap} {cells slots : Nat} {Z : State} {own : String} {bytes : ByteArray} {maxL : Nat} {ret : Option FieldType} {nm : String} {a0 : Array Value} {pc q : Nat} {L L' : Array Slot} {S : List Value} {EL : List (String × Nat)} {mk : Nat} {sf : List Addr}
theorem bk_lt {vm : Vm} {y : Addr} (B : Bk Z EL vm h y) : y < h.size := by
  obtain ⟨cell, hc⟩ := B.there
  exact (Array.getElem?_eq_some_iff.mp hc).1
theorem Cs.intro {ws : List Jvm.Cond} {y : MethodName} {rm : Room} {as : Array Value} (hp : plainFor y = true)
    (k : ∀ p e s m below meth c, Cx p s m meth c Z y.cls bytes maxL ret y.name → AtS p l e rm s m as below meth c Z EL y.cls n0 Q h.size [] h 0 0 (entryFrame m as maxL)) : Cs ws l Z EL n0 y bytes maxL ret rm as h Q := by
  refine MetFree.of_bodySF hp hisR ?_
  intro p e s m args below meth c s₁ Bd hml0 hP hK
  obtain ⟨rfl, hZ, hh, hC⟩ := hP
  have X0 := Stand.of_body Bd
  have hown := findClass_of_methodNamed Bd.named
  refine k p e s m below meth c ⟨Bd.exec, Bd.bytes, hml0, hZ, hown, Bd.returns, Bd.notSynchronized, (name_of_methodNamed Bd.named Bd.method).1⟩ s₁ [] 0 0 s.vm s.heap.size X0 (Nat.le_refl _) (Nat.le_refl _) ?_ (Fr.nil n0) hZ hown ?_ ?_ ?_ ?_ ?_
  · rw [← hh, Bd.state]; rfl
  · exact ⟨State.Warmed39.refl s, fun j q hj hq => absurd (Array.getElem?_eq_some_iff.mp hq).1 (Nat.not_lt.mpr hj)⟩
  · rw [hh]; exact Nat.le_refl _
  · subst hh; exact CHr.refl hC
  · intro y hy; exact bk_lt hy
  · intro x hx; exact absurd hx (List.not_mem_nil)
theorem AtS.mono {g : JFrame} {cells' slots' : Nat} (K : AtS p l e R s m args below meth c Z EL own n0 Q mk sf h cells' slots' g) (h1 : cells ≤ cells') (h2 : slots ≤ slots') : AtS p l e R s m args below meth c Z EL own n0 Q mk sf h cells slots g :=
  fun T locs k n vm0 k0 X hk hn => K T locs k n vm0 k0 X (Nat.le_trans hk h1) (Nat.le_trans hn h2)
theorem AtS.weak {g : JFrame} {mk' : Nat} {sf' : List Addr} (K : AtS p l e R s m args below meth c Z EL own n0 Q mk' sf' h cells slots g) (h1 : mk ≤ mk') (h2 : ∀ x ∈ sf', x ∈ sf) : AtS p l e R s m args below meth c Z EL own n0 Q mk sf h cells slots g :=
  fun T locs k n vm0 k0 X hk hn eT N hZ hown hS hk0 hC hB hF => K T locs k n vm0 k0 X hk hn eT N hZ hown hS hk0 hC (fun y hy => Nat.lt_of_lt_of_le (hB y hy) h1) (fun x hx => hF x (h2 x hx))
/-- every booked constant lies below the heap's size -/
theorem AtS.mark {g : JFrame} (K : AtS p l e R s m args below meth c Z EL own n0 Q h.size sf h cells slots g) : AtS p l e R s m args below meth c Z EL own n0 Q mk sf h cells slots g :=
  fun T locs k n vm0 k0 X hk hn eT N hZ hown hS hk0 hC hB hF => K T locs k n vm0 k0 X hk hn eT N hZ hown hS hk0 hC (fun y hy => bk_lt hy) hF
theorem AtS.add {g : JFrame} {x : Addr} (h1 : mk ≤ x) (h2 : x < h.size) (K : AtS p l e R s m args below meth c Z EL own n0 Q mk (x :: sf) h cells slots g) : AtS p l e R s m args below meth c Z EL own n0 Q mk sf h cells slots g :=
  fun T locs k n vm0 k0 X hk hn eT N hZ hown hS hk0 hC hB hF => K T locs k n vm0 k0 X hk hn eT N hZ hown hS hk0 hC hB (fun y hy => by
    rcases List.mem_cons.mp hy with rfl | hy
    · exact ⟨h2, fun b => Nat.not_lt.mpr h1 (hB _ b)⟩
    · exact hF y hy)
theorem AtS.go {g g' : JFrame} (K : AtS p l e R s m args below meth c Z EL own n0 Q mk sf h cells slots g') (st : ∀ T, At T m c below → ∀ t, Steps p.tables e below (T.setTop g') t → Steps p.tables e below (T.setTop g) t) : AtS p l e R s m args below meth c Z EL own n0 Q mk sf h cells slots g :=
  fun T locs k n vm0 k0 X hk hn eT N hZ hown hS hk0 hC hB hF => by
    obtain ⟨t, o, r1, r⟩ := K T locs k n vm0 k0 X hk hn eT N hZ hown hS hk0 hC hB hF
    exact ⟨t, o, st T X.here t r1, r⟩
theorem AtS.goX {g g' : JFrame} (K : AtS p l e R s m args below meth c Z EL own n0 Q mk sf h cells slots g') (st : ∀ T locs k n vm0, Stand p l e R (s.setVm vm0) m args below meth c T locs k n → T.heap = h → Z.Warmed39 vm0 → vm0.findClass own = some m.cls → ∀ t, Steps p.tables e below (T.setTop g') t → Steps p.tables e below (T.setTop g) t) : AtS p l e R s m args below meth c Z EL own n0 Q mk sf h cells slots g :=
  fun T locs k n vm0 k0 X hk hn eT N hZ hown hS hk0 hC hB hF => by
    obtain ⟨t, o, r1, r⟩ := K T locs k n vm0 k0 X hk hn eT N hZ hown hS hk0 hC hB hF
    exact ⟨t, o, st T locs k n vm0 X eT hZ hown t r1, r⟩
theorem AtS.cast {g g' : JFrame} (K : AtS p l e R s m args below meth c Z EL own n0 Q mk sf h cells slots g') (q : g = g') : AtS p l e R s m args below meth c Z EL own n0 Q mk sf h cells slots g := by rw [q]; exact K

theorem s_iload (C : Cx p s m meth c Z own bytes maxL ret nm) {k : Nat} {v : Int32} (hl : L[k]? = some (.val (.int v))) (hd : decode bytes pc = .ok (.iload k, 2)) (hq : pc + 2 = q) (K : AtS p l e R s m args below meth c Z EL own n0 Q mk sf h cells slots (mkF m q L (.int v :: S))) : AtS p l e R s m args below meth c Z EL own n0 Q mk sf h cells slots (mkF m pc L S) := by
  subst hq
  exact K.go fun T hA t st => XS.iload hA C.1 rfl (hb C.2.1 hd) hl st
theorem s_iloadN (C : Cx p s m meth c Z own bytes maxL ret nm) {k : Fin 4} {v : Int32} (hl : L[k.val]? = some (.val (.int v))) (hd : decode bytes pc = .ok (.iload_n k, 1)) (hq : pc + 1 = q) (K : AtS p l e R s m args below meth c Z EL own n0 Q mk sf h cells slots (mkF m q L (.int v :: S))) : AtS p l e R s m args below meth c Z EL own n0 Q mk sf h cells slots (mkF m pc L S) := by
  subst hq
  exact K.go fun T hA t st => XS.iloadN hA C.1 rfl (hb C.2.1 hd) hl st
theorem s_istore (C : Cx p s m meth c Z own bytes maxL ret nm) {k : Nat} {v : Int32} (hl : storeLocals L k (.int v) = some L') (hd : decode bytes pc = .ok (.istore k, 2)) (hq : pc + 2 = q) (K : AtS p l e R s m args below meth c Z EL own n0 Q mk sf h cells slots (mkF m q L' S)) : AtS p l e R s m args below meth c Z EL own n0 Q mk sf h cells slots (mkF m pc L (.int v :: S)) := by
  subst hq
  exact K.go fun T hA t st => XS.istore hA C.1 rfl (hb C.2.1 hd) rfl hl st
theorem s_istoreN (C : Cx p s m meth c Z own bytes maxL ret nm) {k : Fin 4} {v : Int32} (hl : storeLocals L k.val (.int v) = some L') (hd : decode bytes pc = .ok (.istore_n k, 1)) (hq : pc + 1 = q) (K : AtS p l e R s m args below meth c Z EL own n0 Q mk sf h cells slots (mkF m q L' S)) : AtS p l e R s m args below meth c Z EL own n0 Q mk sf h cells slots (mkF m pc L (.int v :: S)) := by
  subst hq
  exact K.go fun T hA t st => XS.istoreN hA C.1 rfl (hb C.2.1 hd) rfl hl st
theorem s_lload (C : Cx p s m meth c Z own bytes maxL ret nm) {k : Nat} {v : Int64} (hl : L[k]? = some (.val (.long v))) (hd : decode bytes pc = .ok (.lload k, 2)) (hq : pc + 2 = q) (K : AtS p l e R s m args below meth c Z EL own n0 Q mk sf h cells slots (mkF m q L (.long v :: S))) : AtS p l e R s m args below meth c Z EL own n0 Q mk sf h cells slots (mkF m pc L S) := by
  subst hq
  exact K.go fun T hA t st => XS.lload hA C.1 rfl (hb C.2.1 hd) hl st
theorem s_lloadN (C : Cx p s m meth c Z own bytes maxL ret nm) {k : Fin 4} {v : Int64} (hl : L[k.val]? = some (.val (.long v))) (hd : decode bytes pc = .ok (.lload_n k, 1)) (hq : pc + 1 = q) (K : AtS p l e R s m args below meth c Z EL own n0 Q mk sf h cells slots (mkF m q L (.long v :: S))) : AtS p l e R s m args below meth c Z EL own n0 Q mk sf h cells slots (mkF m pc L S) := by
  subst hq
  exact K.go fun T hA t st => XS.lloadN hA C.1 rfl (hb C.2.1 hd) hl st
theorem s_lstore (C : Cx p s m meth c Z own bytes maxL ret nm) {k : Nat} {v : Int64} (hl : storeLocals L k (.long v) = some L') (hd : decode bytes pc = .ok (.lstore k, 2)) (hq : pc + 2 = q) (K : AtS p l e R s m args below meth c Z EL own n0 Q mk sf h cells slots (mkF m q L' S)) : AtS p l e R s m args below meth c Z EL own n0 Q mk sf h cells slots (mkF m pc L (.long v :: S)) := by
  subst hq
  exact K.go fun T hA t st => XS.lstore hA C.1 rfl (hb C.2.1 hd) rfl hl st
theorem s_lstoreN (C : Cx p s m meth c Z own bytes maxL ret nm) {k : Fin 4} {v : Int64} (hl : storeLocals L k.val (.long v) = some L') (hd : decode bytes pc = .ok (.lstore_n k, 1)) (hq : pc + 1 = q) (K : AtS p l e R s m args below meth c Z EL own n0 Q mk sf h cells slots (mkF m q L' S)) : AtS p l e R s m args below meth c Z EL own n0 Q mk sf h cells slots (mkF m pc L (.long v :: S)) := by
  subst hq
  exact K.go fun T hA t st => XS.lstoreN hA C.1 rfl (hb C.2.1 hd) rfl hl st
theorem s_aload (C : Cx p s m meth c Z own bytes maxL ret nm) {k : Nat} {v : Value} (hl : L[k]? = some (.val v)) (hv : v.isRef = true) (hd : decode bytes pc = .ok (.aload k, 2)) (hq : pc + 2 = q) (K : AtS p l e R s m args below meth c Z EL own n0 Q mk sf h cells slots (mkF m q L (v :: S))) : AtS p l e R s m args below meth c Z EL own n0 Q mk sf h cells slots (mkF m pc L S) := by
  subst hq
  exact K.go fun T hA t st => XS.aload hA C.1 rfl (hb C.2.1 hd) hl hv st
theorem s_aloadN (C : Cx p s m meth c Z own bytes maxL ret nm) {k : Fin 4} {v : Value} (hl : L[k.val]? = some (.val v)) (hv : v.isRef = true) (hd : decode bytes pc = .ok (.aload_n k, 1)) (hq : pc + 1 = q) (K : AtS p l e R s m args below meth c Z EL own n0 Q mk sf h cells slots (mkF m q L (v :: S))) : AtS p l e R s m args below meth c Z EL own n0 Q mk sf h cells slots (mkF m pc L S) := by
  subst hq
  exact K.go fun T hA t st => XS.aloadN hA C.1 rfl (hb C.2.1 hd) hl hv st
theorem s_astore (C : Cx p s m meth c Z own bytes maxL ret nm) {k : Nat} {v : Value} (hv : v.isRef = true) (hl : storeLocals L k v = some L') (hd : decode bytes pc = .ok (.astore k, 2)) (hq : pc + 2 = q) (K : AtS p l e R s m args below meth c Z EL own n0 Q mk sf h cells slots (mkF m q L' S)) : AtS p l e R s m args below meth c Z EL own n0 Q mk sf h cells slots (mkF m pc L (v :: S)) := by
  subst hq
  exact K.go fun T hA t st => XS.astore hA C.1 rfl (hb C.2.1 hd) rfl hv hl st
theorem s_astoreN (C : Cx p s m meth c Z own bytes maxL ret nm) {k : Fin 4} {v : Value} (hv : v.isRef = true) (hl : storeLocals L k.val v = some L') (hd : decode bytes pc = .ok (.astore_n k, 1)) (hq : pc + 1 = q) (K : AtS p l e R s m args below meth c Z EL own n0 Q mk sf h cells slots (mkF m q L' S)) : AtS p l e R s m args below meth c Z EL own n0 Q mk sf h cells slots (mkF m pc L (v :: S)) := by
  subst hq
  exact K.go fun T hA t st => XS.astoreN hA C.1 rfl (hb C.2.1 hd) rfl hv hl st
theorem s_iconst (C : Cx p s m meth c Z own bytes maxL ret nm) {i : Int} {v : Int32} (hv : Int32.ofInt i = v) (hd : decode bytes pc = .ok (.iconst i, 1)) (hq : pc + 1 = q) (K : AtS p l e R s m args below meth c Z EL own n0 Q mk sf h cells slots (mkF m q L (.int v :: S))) : AtS p l e R s m args below meth c Z EL own n0 Q mk sf h cells slots (mkF m pc L S) := by
  subst hq
  exact K.go fun T hA t st => by subst hv; exact XS.iconst hA C.1 rfl (hb C.2.1 hd) st
theorem s_bipush (C : Cx p s m meth c Z own bytes maxL ret nm) {i : Int} {v : Int32} (hv : (Int8.ofInt i).toInt32 = v) (hd : decode bytes pc = .ok (.bipush i, 2)) (hq : pc + 2 = q) (K : AtS p l e R s m args below meth c Z EL own n0 Q mk sf h cells slots (mkF m q L (.int v :: S))) : AtS p l e R s m args below meth c Z EL own n0 Q mk sf h cells slots (mkF m pc L S) := by
  subst hq
  exact K.go fun T hA t st => by subst hv; exact XS.bipush hA C.1 rfl (hb C.2.1 hd) st
theorem s_sipush (C : Cx p s m meth c Z own bytes maxL ret nm) {i : Int} {v : Int32} (hv : (Int16.ofInt i).toInt32 = v) (hd : decode bytes pc = .ok (.sipush i, 3)) (hq : pc + 3 = q) (K : AtS p l e R s m args below meth c Z EL own n0 Q mk sf h cells slots (mkF m q L (.int v :: S))) : AtS p l e R s m args below meth c Z EL own n0 Q mk sf h cells slots (mkF m pc L S) := by
  subst hq
  exact K.go fun T hA t st => by subst hv; exact XS.sipush hA C.1 rfl (hb C.2.1 hd) st
theorem s_lconst (C : Cx p s m meth c Z own bytes maxL ret nm) {k : Fin 2} {v : Int64} (hv : Int64.ofNat k = v) (hd : decode bytes pc = .ok (.lconst k, 1)) (hq : pc + 1 = q) (K : AtS p l e R s m args below meth c Z EL own n0 Q mk sf h cells slots (mkF m q L (.long v :: S))) : AtS p l e R s m args below meth c Z EL own n0 Q mk sf h cells slots (mkF m pc L S) := by
  subst hq
  exact K.go fun T hA t st => by subst hv; exact XS.lconst hA C.1 rfl (hb C.2.1 hd) st
theorem s_aconst_null (C : Cx p s m meth c Z own bytes maxL ret nm)  (hd : decode bytes pc = .ok (.aconst_null, 1)) (hq : pc + 1 = q) (K : AtS p l e R s m args below meth c Z EL own n0 Q mk sf h cells slots (mkF m q L (.null :: S))) : AtS p l e R s m args below meth c Z EL own n0 Q mk sf h cells slots (mkF m pc L S) := by
  subst hq
  exact K.go fun T hA t st => XS.aconstNull hA C.1 rfl (hb C.2.1 hd) st
theorem s_iadd (C : Cx p s m meth c Z own bytes maxL ret nm) {x y z : Int32} (hz : x + y = z) (hd : decode bytes pc = .ok (.iadd, 1)) (hq : pc + 1 = q) (K : AtS p l e R s m args below meth c Z EL own n0 Q mk sf h cells slots (mkF m q L (.int z :: S))) : AtS p l e R s m args below meth c Z EL own n0 Q mk sf h cells slots (mkF m pc L (.int y :: .int x :: S)) := by
  subst hq
  exact K.go fun T hA t st => by subst hz; exact XS.iadd hA C.1 rfl (hb C.2.1 hd) rfl st
theorem s_isub (C : Cx p s m meth c Z own bytes maxL ret nm) {x y z : Int32} (hz : x - y = z) (hd : decode bytes pc = .ok (.isub, 1)) (hq : pc + 1 = q) (K : AtS p l e R s m args below meth c Z EL own n0 Q mk sf h cells slots (mkF m q L (.int z :: S))) : AtS p l e R s m args below meth c Z EL own n0 Q mk sf h cells slots (mkF m pc L (.int y :: .int x :: S)) := by
  subst hq
  exact K.go fun T hA t st => by subst hz; exact XS.isub hA C.1 rfl (hb C.2.1 hd) rfl st
theorem s_imul (C : Cx p s m meth c Z own bytes maxL ret nm) {x y z : Int32} (hz : x * y = z) (hd : decode bytes pc = .ok (.imul, 1)) (hq : pc + 1 = q) (K : AtS p l e R s m args below meth c Z EL own n0 Q mk sf h cells slots (mkF m q L (.int z :: S))) : AtS p l e R s m args below meth c Z EL own n0 Q mk sf h cells slots (mkF m pc L (.int y :: .int x :: S)) := by
  subst hq
  exact K.go fun T hA t st => by subst hz; exact XS.imul hA C.1 rfl (hb C.2.1 hd) rfl st
theorem s_iand (C : Cx p s m meth c Z own bytes maxL ret nm) {x y z : Int32} (hz : x &&& y = z) (hd : decode bytes pc = .ok (.iand, 1)) (hq : pc + 1 = q) (K : AtS p l e R s m args below meth c Z EL own n0 Q mk sf h cells slots (mkF m q L (.int z :: S))) : AtS p l e R s m args below meth c Z EL own n0 Q mk sf h cells slots (mkF m pc L (.int y :: .int x :: S)) := by
  subst hq
  exact K.go fun T hA t st => by subst hz; exact XS.iand hA C.1 rfl (hb C.2.1 hd) rfl st
theorem s_ior (C : Cx p s m meth c Z own bytes maxL ret nm) {x y z : Int32} (hz : x ||| y = z) (hd : decode bytes pc = .ok (.ior, 1)) (hq : pc + 1 = q) (K : AtS p l e R s m args below meth c Z EL own n0 Q mk sf h cells slots (mkF m q L (.int z :: S))) : AtS p l e R s m args below meth c Z EL own n0 Q mk sf h cells slots (mkF m pc L (.int y :: .int x :: S)) := by
  subst hq
  exact K.go fun T hA t st => by subst hz; exact XS.ior hA C.1 rfl (hb C.2.1 hd) rfl st
theorem s_ixor (C : Cx p s m meth c Z own bytes maxL ret nm) {x y z : Int32} (hz : x ^^^ y = z) (hd : decode bytes pc = .ok (.ixor, 1)) (hq : pc + 1 = q) (K : AtS p l e R s m args below meth c Z EL own n0 Q mk sf h cells slots (mkF m q L (.int z :: S))) : AtS p l e R s m args below meth c Z EL own n0 Q mk sf h cells slots (mkF m pc L (.int y :: .int x :: S)) := by
  subst hq
  exact K.go fun T hA t st => by subst hz; exact XS.ixor hA C.1 rfl (hb C.2.1 hd) rfl st
theorem s_ladd (C : Cx p s m meth c Z own bytes maxL ret nm) {x y z : Int64} (hz : x + y = z) (hd : decode bytes pc = .ok (.ladd, 1)) (hq : pc + 1 = q) (K : AtS p l e R s m args below meth c Z EL own n0 Q mk sf h cells slots (mkF m q L (.long z :: S))) : AtS p l e R s m args below meth c Z EL own n0 Q mk sf h cells slots (mkF m pc L (.long y :: .long x :: S)) := by
  subst hq
  exact K.go fun T hA t st => by subst hz; exact XS.ladd hA C.1 rfl (hb C.2.1 hd) rfl st
theorem s_lsub (C : Cx p s m meth c Z own bytes maxL ret nm) {x y z : Int64} (hz : x - y = z) (hd : decode bytes pc = .ok (.lsub, 1)) (hq : pc + 1 = q) (K : AtS p l e R s m args below meth c Z EL own n0 Q mk sf h cells slots (mkF m q L (.long z :: S))) : AtS p l e R s m args below meth c Z EL own n0 Q mk sf h cells slots (mkF m pc L (.long y :: .long x :: S)) := by
  subst hq
  exact K.go fun T hA t st => by subst hz; exact XS.lsub hA C.1 rfl (hb C.2.1 hd) rfl st
theorem s_lmul (C : Cx p s m meth c Z own bytes maxL ret nm) {x y z : Int64} (hz : x * y = z) (hd : decode bytes pc = .ok (.lmul, 1)) (hq : pc + 1 = q) (K : AtS p l e R s m args below meth c Z EL own n0 Q mk sf h cells slots (mkF m q L (.long z :: S))) : AtS p l e R s m args below meth c Z EL own n0 Q mk sf h cells slots (mkF m pc L (.long y :: .long x :: S)) := by
  subst hq
  exact K.go fun T hA t st => by subst hz; exact XS.lmul hA C.1 rfl (hb C.2.1 hd) rfl st
theorem s_land (C : Cx p s m meth c Z own bytes maxL ret nm) {x y z : Int64} (hz : x &&& y = z) (hd : decode bytes pc = .ok (.land, 1)) (hq : pc + 1 = q) (K : AtS p l e R s m args below meth c Z EL own n0 Q mk sf h cells slots (mkF m q L (.long z :: S))) : AtS p l e R s m args below meth c Z EL own n0 Q mk sf h cells slots (mkF m pc L (.long y :: .long x :: S)) := by
  subst hq
  exact K.go fun T hA t st => by subst hz; exact XS.land hA C.1 rfl (hb C.2.1 hd) rfl st
theorem s_lor (C : Cx p s m meth c Z own bytes maxL ret nm) {x y z : Int64} (hz : x ||| y = z) (hd : decode bytes pc = .ok (.lor, 1)) (hq : pc + 1 = q) (K : AtS p l e R s m args below meth c Z EL own n0 Q mk sf h cells slots (mkF m q L (.long z :: S))) : AtS p l e R s m args below meth c Z EL own n0 Q mk sf h cells slots (mkF m pc L (.long y :: .long x :: S)) := by
  subst hq
  exact K.go fun T hA t st => by subst hz; exact XS.lor hA C.1 rfl (hb C.2.1 hd) rfl st
theorem s_lxor (C : Cx p s m meth c Z own bytes maxL ret nm) {x y z : Int64} (hz : x ^^^ y = z) (hd : decode bytes pc = .ok (.lxor, 1)) (hq : pc + 1 = q) (K : AtS p l e R s m args below meth c Z EL own n0 Q mk sf h cells slots (mkF m q L (.long z :: S))) : AtS p l e R s m args below meth c Z EL own n0 Q mk sf h cells slots (mkF m pc L (.long y :: .long x :: S)) := by
  subst hq
  exact K.go fun T hA t st => by subst hz; exact XS.lxor hA C.1 rfl (hb C.2.1 hd) rfl st
theorem s_ishl (C : Cx p s m meth c Z own bytes maxL ret nm) {x y z : Int32} (hz : x <<< (y &&& 31) = z) (hd : decode bytes pc = .ok (.ishl, 1)) (hq : pc + 1 = q) (K : AtS p l e R s m args below meth c Z EL own n0 Q mk sf h cells slots (mkF m q L (.int z :: S))) : AtS p l e R s m args below meth c Z EL own n0 Q mk sf h cells slots (mkF m pc L (.int y :: .int x :: S)) := by
  subst hq
  exact K.go fun T hA t st => by subst hz; exact XS.ishl hA C.1 rfl (hb C.2.1 hd) rfl st
theorem s_ishr (C : Cx p s m meth c Z own bytes maxL ret nm) {x y z : Int32} (hz : x >>> (y &&& 31) = z) (hd : decode bytes pc = .ok (.ishr, 1)) (hq : pc + 1 = q) (K : AtS p l e R s m args below meth c Z EL own n0 Q mk sf h cells slots (mkF m q L (.int z :: S))) : AtS p l e R s m args below meth c Z EL own n0 Q mk sf h cells slots (mkF m pc L (.int y :: .int x :: S)) := by
  subst hq
  exact K.go fun T hA t st => by subst hz; exact XS.ishr hA C.1 rfl (hb C.2.1 hd) rfl st
theorem s_iushr (C : Cx p s m meth c Z own bytes maxL ret nm) {x y z : Int32} (hz : (x.toUInt32 >>> (y &&& 31).toUInt32).toInt32 = z) (hd : decode bytes pc = .ok (.iushr, 1)) (hq : pc + 1 = q) (K : AtS p l e R s m args below meth c Z EL own n0 Q mk sf h cells slots (mkF m q L (.int z :: S))) : AtS p l e R s m args below meth c Z EL own n0 Q mk sf h cells slots (mkF m pc L (.int y :: .int x :: S)) := by
  subst hq
  exact K.go fun T hA t st => by subst hz; exact XS.iushr hA C.1 rfl (hb C.2.1 hd) rfl st
theorem s_lshl (C : Cx p s m meth c Z own bytes maxL ret nm) {x z : Int64} {y : Int32} (hz : x <<< (y &&& 0x3f).toInt64 = z) (hd : decode bytes pc = .ok (.lshl, 1)) (hq : pc + 1 = q) (K : AtS p l e R s m args below meth c Z EL own n0 Q mk sf h cells slots (mkF m q L (.long z :: S))) : AtS p l e R s m args below meth c Z EL own n0 Q mk sf h cells slots (mkF m pc L (.int y :: .long x :: S)) := by
  subst hq
  exact K.go fun T hA t st => by subst hz; exact XS.lshl hA C.1 rfl (hb C.2.1 hd) rfl st
theorem s_lshr (C : Cx p s m meth c Z own bytes maxL ret nm) {x z : Int64} {y : Int32} (hz : x >>> (y &&& 0x3f).toInt64 = z) (hd : decode bytes pc = .ok (.lshr, 1)) (hq : pc + 1 = q) (K : AtS p l e R s m args below meth c Z EL own n0 Q mk sf h cells slots (mkF m q L (.long z :: S))) : AtS p l e R s m args below meth c Z EL own n0 Q mk sf h cells slots (mkF m pc L (.int y :: .long x :: S)) := by
  subst hq
  exact K.go fun T hA t st => by subst hz; exact XS.lshr hA C.1 rfl (hb C.2.1 hd) rfl st
theorem s_lushr (C : Cx p s m meth c Z own bytes maxL ret nm) {x z : Int64} {y : Int32} (hz : (x.toUInt64 >>> (y &&& 0x3f).toInt64.toUInt64).toInt64 = z) (hd : decode bytes pc = .ok (.lushr, 1)) (hq : pc + 1 = q) (K : AtS p l e R s m args below meth c Z EL own n0 Q mk sf h cells slots (mkF m q L (.long z :: S))) : AtS p l e R s m args below meth c Z EL own n0 Q mk sf h cells slots (mkF m pc L (.int y :: .long x :: S)) := by
  subst hq
  exact K.go fun T hA t st => by subst hz; exact XS.lushr hA C.1 rfl (hb C.2.1 hd) rfl st
theorem s_idiv (C : Cx p s m meth c Z own bytes maxL ret nm) {x y z : Int32} (hy : y ≠ 0) (hz : x / y = z) (hd : decode bytes pc = .ok (.idiv, 1)) (hq : pc + 1 = q) (K : AtS p l e R s m args below meth c Z EL own n0 Q mk sf h cells slots (mkF m q L (.int z :: S))) : AtS p l e R s m args below meth c Z EL own n0 Q mk sf h cells slots (mkF m pc L (.int y :: .int x :: S)) := by
  subst hq
  exact K.go fun T hA t st => by subst hz; exact XS.idiv hA C.1 rfl (hb C.2.1 hd) rfl hy st
theorem s_ldiv (C : Cx p s m meth c Z own bytes maxL ret nm) {x y z : Int64} (hy : y ≠ 0) (hz : x / y = z) (hd : decode bytes pc = .ok (.ldiv, 1)) (hq : pc + 1 = q) (K : AtS p l e R s m args below meth c Z EL own n0 Q mk sf h cells slots (mkF m q L (.long z :: S))) : AtS p l e R s m args below meth c Z EL own n0 Q mk sf h cells slots (mkF m pc L (.long y :: .long x :: S)) := by
  subst hq
  exact K.go fun T hA t st => by subst hz; exact XS.ldiv hA C.1 rfl (hb C.2.1 hd) rfl hy st
theorem s_irem (C : Cx p s m meth c Z own bytes maxL ret nm) {x y z : Int32} (hy : y ≠ 0) (hz : x % y = z) (hd : decode bytes pc = .ok (.irem, 1)) (hq : pc + 1 = q) (K : AtS p l e R s m args below meth c Z EL own n0 Q mk sf h cells slots (mkF m q L (.int z :: S))) : AtS p l e R s m args below meth c Z EL own n0 Q mk sf h cells slots (mkF m pc L (.int y :: .int x :: S)) := by
  subst hq
  exact K.go fun T hA t st => by subst hz; rw [← irem_eq_mod x y] at st; exact XS.irem hA C.1 rfl (hb C.2.1 hd) rfl hy st
theorem s_lrem (C : Cx p s m meth c Z own bytes maxL ret nm) {x y z : Int64} (hy : y ≠ 0) (hz : x % y = z) (hd : decode bytes pc = .ok (.lrem, 1)) (hq : pc + 1 = q) (K : AtS p l e R s m args below meth c Z EL own n0 Q mk sf h cells slots (mkF m q L (.long z :: S))) : AtS p l e R s m args below meth c Z EL own n0 Q mk sf h cells slots (mkF m pc L (.long y :: .long x :: S)) := by
  subst hq
  exact K.go fun T hA t st => by subst hz; rw [← lrem_mod x y] at st; exact XS.lrem hA C.1 rfl (hb C.2.1 hd) rfl hy st
theorem s_ineg (C : Cx p s m meth c Z own bytes maxL ret nm) {x : Int32} {z : Int32} (hz : -x = z) (hd : decode bytes pc = .ok (.ineg, 1)) (hq : pc + 1 = q) (K : AtS p l e R s m args below meth c Z EL own n0 Q mk sf h cells slots (mkF m q L (.int z :: S))) : AtS p l e R s m args below meth c Z EL own n0 Q mk sf h cells slots (mkF m pc L (.int x :: S)) := by
  subst hq
  exact K.go fun T hA t st => by subst hz; exact XS.ineg hA C.1 rfl (hb C.2.1 hd) rfl st
theorem s_lneg (C : Cx p s m meth c Z own bytes maxL ret nm) {x : Int64} {z : Int64} (hz : -x = z) (hd : decode bytes pc = .ok (.lneg, 1)) (hq : pc + 1 = q) (K : AtS p l e R s m args below meth c Z EL own n0 Q mk sf h cells slots (mkF m q L (.long z :: S))) : AtS p l e R s m args below meth c Z EL own n0 Q mk sf h cells slots (mkF m pc L (.long x :: S)) := by
  subst hq
  exact K.go fun T hA t st => by subst hz; exact XS.lneg hA C.1 rfl (hb C.2.1 hd) rfl st
theorem s_i2l (C : Cx p s m meth c Z own bytes maxL ret nm) {x : Int32} {z : Int64} (hz : x.toInt64 = z) (hd : decode bytes pc = .ok (.i2l, 1)) (hq : pc + 1 = q) (K : AtS p l e R s m args below meth c Z EL own n0 Q mk sf h cells slots (mkF m q L (.long z :: S))) : AtS p l e R s m args below meth c Z EL own n0 Q mk sf h cells slots (mkF m pc L (.int x :: S)) := by
  subst hq
  exact K.go fun T hA t st => by subst hz; exact XS.i2l hA C.1 rfl (hb C.2.1 hd) rfl st
theorem s_l2i (C : Cx p s m meth c Z own bytes maxL ret nm) {x : Int64} {z : Int32} (hz : x.toInt32 = z) (hd : decode bytes pc = .ok (.l2i, 1)) (hq : pc + 1 = q) (K : AtS p l e R s m args below meth c Z EL own n0 Q mk sf h cells slots (mkF m q L (.int z :: S))) : AtS p l e R s m args below meth c Z EL own n0 Q mk sf h cells slots (mkF m pc L (.long x :: S)) := by
  subst hq
  exact K.go fun T hA t st => by subst hz; exact XS.l2i hA C.1 rfl (hb C.2.1 hd) rfl st
theorem s_i2b (C : Cx p s m meth c Z own bytes maxL ret nm) {x : Int32} {z : Int32} (hz : x.toInt8.toInt32 = z) (hd : decode bytes pc = .ok (.i2b, 1)) (hq : pc + 1 = q) (K : AtS p l e R s m args below meth c Z EL own n0 Q mk sf h cells slots (mkF m q L (.int z :: S))) : AtS p l e R s m args below meth c Z EL own n0 Q mk sf h cells slots (mkF m pc L (.int x :: S)) := by
  subst hq
  exact K.go fun T hA t st => by subst hz; exact XS.i2b hA C.1 rfl (hb C.2.1 hd) rfl st
theorem s_i2s (C : Cx p s m meth c Z own bytes maxL ret nm) {x : Int32} {z : Int32} (hz : x.toInt16.toInt32 = z) (hd : decode bytes pc = .ok (.i2s, 1)) (hq : pc + 1 = q) (K : AtS p l e R s m args below meth c Z EL own n0 Q mk sf h cells slots (mkF m q L (.int z :: S))) : AtS p l e R s m args below meth c Z EL own n0 Q mk sf h cells slots (mkF m pc L (.int x :: S)) := by
  subst hq
  exact K.go fun T hA t st => by subst hz; exact XS.i2s hA C.1 rfl (hb C.2.1 hd) rfl st
theorem s_i2c (C : Cx p s m meth c Z own bytes maxL ret nm) {x : Int32} {z : Int32} (hz : x.toUInt32.toUInt16.toUInt32.toInt32 = z) (hd : decode bytes pc = .ok (.i2c, 1)) (hq : pc + 1 = q) (K : AtS p l e R s m args below meth c Z EL own n0 Q mk sf h cells slots (mkF m q L (.int z :: S))) : AtS p l e R s m args below meth c Z EL own n0 Q mk sf h cells slots (mkF m pc L (.int x :: S)) := by
  subst hq
  exact K.go fun T hA t st => by subst hz; exact XS.i2c hA C.1 rfl (hb C.2.1 hd) rfl st
theorem s_lcmp (C : Cx p s m meth c Z own bytes maxL ret nm) {x y : Int64} {z : Int32} (hz : lcmpW x y = z) (hd : decode bytes pc = .ok (.lcmp, 1)) (hq : pc + 1 = q) (K : AtS p l e R s m args below meth c Z EL own n0 Q mk sf h cells slots (mkF m q L (.int z :: S))) : AtS p l e R s m args below meth c Z EL own n0 Q mk sf h cells slots (mkF m pc L (.long y :: .long x :: S)) := by
  subst hq
  exact K.go fun T hA t st => by subst hz; exact XS.lcmp hA C.1 rfl (hb C.2.1 hd) rfl st
theorem s_dup (C : Cx p s m meth c Z own bytes maxL ret nm) {x : Value} (hc : x.category = 1) (hd : decode bytes pc = .ok (.dup, 1)) (hq : pc + 1 = q) (K : AtS p l e R s m args below meth c Z EL own n0 Q mk sf h cells slots (mkF m q L (x :: x :: S))) : AtS p l e R s m args below meth c Z EL own n0 Q mk sf h cells slots (mkF m pc L (x :: S)) := by
  subst hq
  exact K.go fun T hA t st => XS.dup hA C.1 rfl (hb C.2.1 hd) rfl hc st
theorem s_pop (C : Cx p s m meth c Z own bytes maxL ret nm) {x : Value} (hc : x.category = 1) (hd : decode bytes pc = .ok (.pop, 1)) (hq : pc + 1 = q) (K : AtS p l e R s m args below meth c Z EL own n0 Q mk sf h cells slots (mkF m q L S)) : AtS p l e R s m args below meth c Z EL own n0 Q mk sf h cells slots (mkF m pc L (x :: S)) := by
  subst hq
  exact K.go fun T hA t st => XS.pop hA C.1 rfl (hb C.2.1 hd) rfl hc st
theorem s_dup_x1 (C : Cx p s m meth c Z own bytes maxL ret nm) {x y : Value} (hc : x.category = 1) (hc' : y.category = 1) (hd : decode bytes pc = .ok (.dup_x1, 1)) (hq : pc + 1 = q) (K : AtS p l e R s m args below meth c Z EL own n0 Q mk sf h cells slots (mkF m q L (x :: y :: x :: S))) : AtS p l e R s m args below meth c Z EL own n0 Q mk sf h cells slots (mkF m pc L (x :: y :: S)) := by
  subst hq
  exact K.go fun T hA t st => XS.dupX1 hA C.1 rfl (hb C.2.1 hd) rfl hc hc' st
theorem s_iinc (C : Cx p s m meth c Z own bytes maxL ret nm) {k : Nat} {cst : Int} {x z : Int32} (hl : L[k]? = some (.val (.int x))) (hz : x + Int32.ofInt cst = z) (hl' : storeLocals L k (.int z) = some L') (hd : decode bytes pc = .ok (.iinc k cst, 3)) (hq : pc + 3 = q) (K : AtS p l e R s m args below meth c Z EL own n0 Q mk sf h cells slots (mkF m q L' S)) : AtS p l e R s m args below meth c Z EL own n0 Q mk sf h cells slots (mkF m pc L S) := by
  subst hq
  exact K.go fun T hA t st => by subst hz; exact XS.iinc hA C.1 rfl (hb C.2.1 hd) hl hl' st
theorem s_goto (C : Cx p s m meth c Z own bytes maxL ret nm) {o : Int} (hd : decode bytes pc = .ok (.goto o, 3)) (ho : 0 ≤ (pc : Int) + o) (hp : ((pc : Int) + o).toNat = q) (K : AtS p l e R s m args below meth c Z EL own n0 Q mk sf h cells slots (mkF m q L S)) : AtS p l e R s m args below meth c Z EL own n0 Q mk sf h cells slots (mkF m pc L S) :=
  K.go fun T hA t st => XS.goto hA C.1 rfl (pc0 := pc) (pc' := q) rfl (hb C.2.1 hd) ho hp st
theorem s_icmp_lt_t (C : Cx p s m meth c Z own bytes maxL ret nm) {o : Int} {x y : Int32} (hd : decode bytes pc = .ok (.if_icmp .lt o, 3)) (ho : 0 ≤ (pc : Int) + o) (hp : ((pc : Int) + o).toNat = q) (hc : x < y) (K : AtS p l e R s m args below meth c Z EL own n0 Q mk sf h cells slots (mkF m q L S)) : AtS p l e R s m args below meth c Z EL own n0 Q mk sf h cells slots (mkF m pc L (.int y :: .int x :: S)) :=
  K.go fun T hA t st => XS.icmpYes hA C.1 rfl (pc0 := pc) (pc' := q) rfl (hb C.2.1 hd) rfl (tlt hc).1 ho hp st
theorem s_icmp_lt_f (C : Cx p s m meth c Z own bytes maxL ret nm) {o : Int} {x y : Int32} (hd : decode bytes pc = .ok (.if_icmp .lt o, 3)) (hq : pc + 3 = q) (hc : ¬ x < y) (K : AtS p l e R s m args below meth c Z EL own n0 Q mk sf h cells slots (mkF m q L S)) : AtS p l e R s m args below meth c Z EL own n0 Q mk sf h cells slots (mkF m pc L (.int y :: .int x :: S)) := by
  subst hq
  exact K.go fun T hA t st => XS.icmpNo hA C.1 rfl (hb C.2.1 hd) rfl (flt hc).1 st
theorem s_if_lt_t (C : Cx p s m meth c Z own bytes maxL ret nm) {o : Int} {x : Int32} (hd : decode bytes pc = .ok (.ifCond .lt o, 3)) (ho : 0 ≤ (pc : Int) + o) (hp : ((pc : Int) + o).toNat = q) (hc : x < 0) (K : AtS p l e R s m args below meth c Z EL own n0 Q mk sf h cells slots (mkF m q L S)) : AtS p l e R s m args below meth c Z EL own n0 Q mk sf h cells slots (mkF m pc L (.int x :: S)) :=
  K.go fun T hA t st => XS.ifYes hA C.1 rfl (pc0 := pc) (pc' := q) rfl (hb C.2.1 hd) rfl ((if0 _ _).trans (tlt hc).1) ho hp st
theorem s_if_lt_f (C : Cx p s m meth c Z own bytes maxL ret nm) {o : Int} {x : Int32} (hd : decode bytes pc = .ok (.ifCond .lt o, 3)) (hq : pc + 3 = q) (hc : ¬ x < 0) (K : AtS p l e R s m args below meth c Z EL own n0 Q mk sf h cells slots (mkF m q L S)) : AtS p l e R s m args below meth c Z EL own n0 Q mk sf h cells slots (mkF m pc L (.int x :: S)) := by
  subst hq
  exact K.go fun T hA t st => XS.ifNo hA C.1 rfl (hb C.2.1 hd) rfl ((if0 _ _).trans (flt hc).1) st
theorem s_icmp_ge_t (C : Cx p s m meth c Z own bytes maxL ret nm) {o : Int} {x y : Int32} (hd : decode bytes pc = .ok (.if_icmp .ge o, 3)) (ho : 0 ≤ (pc : Int) + o) (hp : ((pc : Int) + o).toNat = q) (hc : ¬ x < y) (K : AtS p l e R s m args below meth c Z EL own n0 Q mk sf h cells slots (mkF m q L S)) : AtS p l e R s m args below meth c Z EL own n0 Q mk sf h cells slots (mkF m pc L (.int y :: .int x :: S)) :=
  K.go fun T hA t st => XS.icmpYes hA C.1 rfl (pc0 := pc) (pc' := q) rfl (hb C.2.1 hd) rfl (flt hc).2.1 ho hp st
theorem s_icmp_ge_f (C : Cx p s m meth c Z own bytes maxL ret nm) {o : Int} {x y : Int32} (hd : decode bytes pc = .ok (.if_icmp .ge o, 3)) (hq : pc + 3 = q) (hc : x < y) (K : AtS p l e R s m args below meth c Z EL own n0 Q mk sf h cells slots (mkF m q L S)) : AtS p l e R s m args below meth c Z EL own n0 Q mk sf h cells slots (mkF m pc L (.int y :: .int x :: S)) := by
  subst hq
  exact K.go fun T hA t st => XS.icmpNo hA C.1 rfl (hb C.2.1 hd) rfl (tlt hc).2.1 st
theorem s_if_ge_t (C : Cx p s m meth c Z own bytes maxL ret nm) {o : Int} {x : Int32} (hd : decode bytes pc = .ok (.ifCond .ge o, 3)) (ho : 0 ≤ (pc : Int) + o) (hp : ((pc : Int) + o).toNat = q) (hc : ¬ x < 0) (K : AtS p l e R s m args below meth c Z EL own n0 Q mk sf h cells slots (mkF m q L S)) : AtS p l e R s m args below meth c Z EL own n0 Q mk sf h cells slots (mkF m pc L (.int x :: S)) :=
  K.go fun T hA t st => XS.ifYes hA C.1 rfl (pc0 := pc) (pc' := q) rfl (hb C.2.1 hd) rfl ((if0 _ _).trans (flt hc).2.1) ho hp st
theorem s_if_ge_f (C : Cx p s m meth c Z own bytes maxL ret nm) {o : Int} {x : Int32} (hd : decode bytes pc = .ok (.ifCond .ge o, 3)) (hq : pc + 3 = q) (hc : x < 0) (K : AtS p l e R s m args below meth c Z EL own n0 Q mk sf h cells slots (mkF m q L S)) : AtS p l e R s m args below meth c Z EL own n0 Q mk sf h cells slots (mkF m pc L (.int x :: S)) := by
  subst hq
  exact K.go fun T hA t st => XS.ifNo hA C.1 rfl (hb C.2.1 hd) rfl ((if0 _ _).trans (tlt hc).2.1) st
theorem s_icmp_gt_t (C : Cx p s m meth c Z own bytes maxL ret nm) {o : Int} {x y : Int32} (hd : decode bytes pc = .ok (.if_icmp .gt o, 3)) (ho : 0 ≤ (pc : Int) + o) (hp : ((pc : Int) + o).toNat = q) (hc : y < x) (K : AtS p l e R s m args below meth c Z EL own n0 Q mk sf h cells slots (mkF m q L S)) : AtS p l e R s m args below meth c Z EL own n0 Q mk sf h cells slots (mkF m pc L (.int y :: .int x :: S)) :=
  K.go fun T hA t st => XS.icmpYes hA C.1 rfl (pc0 := pc) (pc' := q) rfl (hb C.2.1 hd) rfl (tlt hc).2.2.1 ho hp st
theorem s_icmp_gt_f (C : Cx p s m meth c Z own bytes maxL ret nm) {o : Int} {x y : Int32} (hd : decode bytes pc = .ok (.if_icmp .gt o, 3)) (hq : pc + 3 = q) (hc : ¬ y < x) (K : AtS p l e R s m args below meth c Z EL own n0 Q mk sf h cells slots (mkF m q L S)) : AtS p l e R s m args below meth c Z EL own n0 Q mk sf h cells slots (mkF m pc L (.int y :: .int x :: S)) := by
  subst hq
  exact K.go fun T hA t st => XS.icmpNo hA C.1 rfl (hb C.2.1 hd) rfl (flt hc).2.2.1 st
theorem s_if_gt_t (C : Cx p s m meth c Z own bytes maxL ret nm) {o : Int} {x : Int32} (hd : decode bytes pc = .ok (.ifCond .gt o, 3)) (ho : 0 ≤ (pc : Int) + o) (hp : ((pc : Int) + o).toNat = q) (hc : 0 < x) (K : AtS p l e R s m args below meth c Z EL own n0 Q mk sf h cells slots (mkF m q L S)) : AtS p l e R s m args below meth c Z EL own n0 Q mk sf h cells slots (mkF m pc L (.int x :: S)) :=
  K.go fun T hA t st => XS.ifYes hA C.1 rfl (pc0 := pc) (pc' := q) rfl (hb C.2.1 hd) rfl ((if0 _ _).trans (tlt hc).2.2.1) ho hp st
theorem s_if_gt_f (C : Cx p s m meth c Z own bytes maxL ret nm) {o : Int} {x : Int32} (hd : decode bytes pc = .ok (.ifCond .gt o, 3)) (hq : pc + 3 = q) (hc : ¬ 0 < x) (K : AtS p l e R s m args below meth c Z EL own n0 Q mk sf h cells slots (mkF m q L S)) : AtS p l e R s m args below meth c Z EL own n0 Q mk sf h cells slots (mkF m pc L (.int x :: S)) := by
  subst hq
  exact K.go fun T hA t st => XS.ifNo hA C.1 rfl (hb C.2.1 hd) rfl ((if0 _ _).trans (flt hc).2.2.1) st
theorem s_icmp_le_t (C : Cx p s m meth c Z own bytes maxL ret nm) {o : Int} {x y : Int32} (hd : decode bytes pc = .ok (.if_icmp .le o, 3)) (ho : 0 ≤ (pc : Int) + o) (hp : ((pc : Int) + o).toNat = q) (hc : ¬ y < x) (K : AtS p l e R s m args below meth c Z EL own n0 Q mk sf h cells slots (mkF m q L S)) : AtS p l e R s m args below meth c Z EL own n0 Q mk sf h cells slots (mkF m pc L (.int y :: .int x :: S)) :=
  K.go fun T hA t st => XS.icmpYes hA C.1 rfl (pc0 := pc) (pc' := q) rfl (hb C.2.1 hd) rfl (flt hc).2.2.2 ho hp st
theorem s_icmp_le_f (C : Cx p s m meth c Z own bytes maxL ret nm) {o : Int} {x y : Int32} (hd : decode bytes pc = .ok (.if_icmp .le o, 3)) (hq : pc + 3 = q) (hc : y < x) (K : AtS p l e R s m args below meth c Z EL own n0 Q mk sf h cells slots (mkF m q L S)) : AtS p l e R s m args below meth c Z EL own n0 Q mk sf h cells slots (mkF m pc L (.int y :: .int x :: S)) := by
  subst hq
  exact K.go fun T hA t st => XS.icmpNo hA C.1 rfl (hb C.2.1 hd) rfl (tlt hc).2.2.2 st
theorem s_if_le_t (C : Cx p s m meth c Z own bytes maxL ret nm) {o : Int} {x : Int32} (hd : decode bytes pc = .ok (.ifCond .le o, 3)) (ho : 0 ≤ (pc : Int) + o) (hp : ((pc : Int) + o).toNat = q) (hc : ¬ 0 < x) (K : AtS p l e R s m args below meth c Z EL own n0 Q mk sf h cells slots (mkF m q L S)) : AtS p l e R s m args below meth c Z EL own n0 Q mk sf h cells slots (mkF m pc L (.int x :: S)) :=
  K.go fun T hA t st => XS.ifYes hA C.1 rfl (pc0 := pc) (pc' := q) rfl (hb C.2.1 hd) rfl ((if0 _ _).trans (flt hc).2.2.2) ho hp st
theorem s_if_le_f (C : Cx p s m meth c Z own bytes maxL ret nm) {o : Int} {x : Int32} (hd : decode bytes pc = .ok (.ifCond .le o, 3)) (hq : pc + 3 = q) (hc : 0 < x) (K : AtS p l e R s m args below meth c Z EL own n0 Q mk sf h cells slots (mkF m q L S)) : AtS p l e R s m args below meth c Z EL own n0 Q mk sf h cells slots (mkF m pc L (.int x :: S)) := by
  subst hq
  exact K.go fun T hA t st => XS.ifNo hA C.1 rfl (hb C.2.1 hd) rfl ((if0 _ _).trans (tlt hc).2.2.2) st
theorem s_icmp_eq_t (C : Cx p s m meth c Z own bytes maxL ret nm) {o : Int} {x y : Int32} (hd : decode bytes pc = .ok (.if_icmp .eq o, 3)) (ho : 0 ≤ (pc : Int) + o) (hp : ((pc : Int) + o).toNat = q) (hc : x = y) (K : AtS p l e R s m args below meth c Z EL own n0 Q mk sf h cells slots (mkF m q L S)) : AtS p l e R s m args below meth c Z EL own n0 Q mk sf h cells slots (mkF m pc L (.int y :: .int x :: S)) :=
  K.go fun T hA t st => XS.icmpYes hA C.1 rfl (pc0 := pc) (pc' := q) rfl (hb C.2.1 hd) rfl (teq hc).1 ho hp st
theorem s_icmp_eq_f (C : Cx p s m meth c Z own bytes maxL ret nm) {o : Int} {x y : Int32} (hd : decode bytes pc = .ok (.if_icmp .eq o, 3)) (hq : pc + 3 = q) (hc : ¬ x = y) (K : AtS p l e R s m args below meth c Z EL own n0 Q mk sf h cells slots (mkF m q L S)) : AtS p l e R s m args below meth c Z EL own n0 Q mk sf h cells slots (mkF m pc L (.int y :: .int x :: S)) := by
  subst hq
  exact K.go fun T hA t st => XS.icmpNo hA C.1 rfl (hb C.2.1 hd) rfl (feq hc).1 st
theorem s_if_eq_t (C : Cx p s m meth c Z own bytes maxL ret nm) {o : Int} {x : Int32} (hd : decode bytes pc = .ok (.ifCond .eq o, 3)) (ho : 0 ≤ (pc : Int) + o) (hp : ((pc : Int) + o).toNat = q) (hc : x = 0) (K : AtS p l e R s m args below meth c Z EL own n0 Q mk sf h cells slots (mkF m q L S)) : AtS p l e R s m args below meth c Z EL own n0 Q mk sf h cells slots (mkF m pc L (.int x :: S)) :=
  K.go fun T hA t st => XS.ifYes hA C.1 rfl (pc0 := pc) (pc' := q) rfl (hb C.2.1 hd) rfl ((if0 _ _).trans (teq hc).1) ho hp st
theorem s_if_eq_f (C : Cx p s m meth c Z own bytes maxL ret nm) {o : Int} {x : Int32} (hd : decode bytes pc = .ok (.ifCond .eq o, 3)) (hq : pc + 3 = q) (hc : ¬ x = 0) (K : AtS p l e R s m args below meth c Z EL own n0 Q mk sf h cells slots (mkF m q L S)) : AtS p l e R s m args below meth c Z EL own n0 Q mk sf h cells slots (mkF m pc L (.int x :: S)) := by
  subst hq
  exact K.go fun T hA t st => XS.ifNo hA C.1 rfl (hb C.2.1 hd) rfl ((if0 _ _).trans (feq hc).1) st
theorem s_icmp_ne_t (C : Cx p s m meth c Z own bytes maxL ret nm) {o : Int} {x y : Int32} (hd : decode bytes pc = .ok (.if_icmp .ne o, 3)) (ho : 0 ≤ (pc : Int) + o) (hp : ((pc : Int) + o).toNat = q) (hc : ¬ x = y) (K : AtS p l e R s m args below meth c Z EL own n0 Q mk sf h cells slots (mkF m q L S)) : AtS p l e R s m args below meth c Z EL own n0 Q mk sf h cells slots (mkF m pc L (.int y :: .int x :: S)) :=
  K.go fun T hA t st => XS.icmpYes hA C.1 rfl (pc0 := pc) (pc' := q) rfl (hb C.2.1 hd) rfl (feq hc).2 ho hp st
theorem s_icmp_ne_f (C : Cx p s m meth c Z own bytes maxL ret nm) {o : Int} {x y : Int32} (hd : decode bytes pc = .ok (.if_icmp .ne o, 3)) (hq : pc + 3 = q) (hc : x = y) (K : AtS p l e R s m args below meth c Z EL own n0 Q mk sf h cells slots (mkF m q L S)) : AtS p l e R s m args below meth c Z EL own n0 Q mk sf h cells slots (mkF m pc L (.int y :: .int x :: S)) := by
  subst hq
  exact K.go fun T hA t st => XS.icmpNo hA C.1 rfl (hb C.2.1 hd) rfl (teq hc).2 st
theorem s_if_ne_t (C : Cx p s m meth c Z own bytes maxL ret nm) {o : Int} {x : Int32} (hd : decode bytes pc = .ok (.ifCond .ne o, 3)) (ho : 0 ≤ (pc : Int) + o) (hp : ((pc : Int) + o).toNat = q) (hc : ¬ x = 0) (K : AtS p l e R s m args below meth c Z EL own n0 Q mk sf h cells slots (mkF m q L S)) : AtS p l e R s m args below meth c Z EL own n0 Q mk sf h cells slots (mkF m pc L (.int x :: S)) :=
  K.go fun T hA t st => XS.ifYes hA C.1 rfl (pc0 := pc) (pc' := q) rfl (hb C.2.1 hd) rfl ((if0 _ _).trans (feq hc).2) ho hp st
theorem s_if_ne_f (C : Cx p s m meth c Z own bytes maxL ret nm) {o : Int} {x : Int32} (hd : decode bytes pc = .ok (.ifCond .ne o, 3)) (hq : pc + 3 = q) (hc : x = 0) (K : AtS p l e R s m args below meth c Z EL own n0 Q mk sf h cells slots (mkF m q L S)) : AtS p l e R s m args below meth c Z EL own n0 Q mk sf h cells slots (mkF m pc L (.int x :: S)) := by
  subst hq
  exact K.go fun T hA t st => XS.ifNo hA C.1 rfl (hb C.2.1 hd) rfl ((if0 _ _).trans (teq hc).2) st
theorem s_ifnull_t (C : Cx p s m meth c Z own bytes maxL ret nm) {o : Int} (hd : decode bytes pc = .ok (.ifnull o, 3)) (ho : 0 ≤ (pc : Int) + o) (hp : ((pc : Int) + o).toNat = q) (K : AtS p l e R s m args below meth c Z EL own n0 Q mk sf h cells slots (mkF m q L S)) : AtS p l e R s m args below meth c Z EL own n0 Q mk sf h cells slots (mkF m pc L (.null :: S)) :=
  K.go fun T hA t st => XS.ifnullYes hA C.1 rfl (pc0 := pc) (pc' := q) rfl (hb C.2.1 hd) rfl ho hp st
theorem s_ifnull_f (C : Cx p s m meth c Z own bytes maxL ret nm) {o : Int} {b : Addr} (hd : decode bytes pc = .ok (.ifnull o, 3)) (hq : pc + 3 = q) (K : AtS p l e R s m args below meth c Z EL own n0 Q mk sf h cells slots (mkF m q L S)) : AtS p l e R s m args below meth c Z EL own n0 Q mk sf h cells slots (mkF m pc L ((.ref b) :: S)) := by
  subst hq
  exact K.go fun T hA t st => XS.ifnullNo hA C.1 rfl (hb C.2.1 hd) rfl st
theorem s_ifnonnull_t (C : Cx p s m meth c Z own bytes maxL ret nm) {o : Int} {b : Addr} (hd : decode bytes pc = .ok (.ifnonnull o, 3)) (ho : 0 ≤ (pc : Int) + o) (hp : ((pc : Int) + o).toNat = q) (K : AtS p l e R s m args below meth c Z EL own n0 Q mk sf h cells slots (mkF m q L S)) : AtS p l e R s m args below meth c Z EL own n0 Q mk sf h cells slots (mkF m pc L ((.ref b) :: S)) :=
  K.go fun T hA t st => XS.ifnonnullYes hA C.1 rfl (pc0 := pc) (pc' := q) rfl (hb C.2.1 hd) rfl ho hp st
theorem s_ifnonnull_f (C : Cx p s m meth c Z own bytes maxL ret nm) {o : Int} (hd : decode bytes pc = .ok (.ifnonnull o, 3)) (hq : pc + 3 = q) (K : AtS p l e R s m args below meth c Z EL own n0 Q mk sf h cells slots (mkF m q L S)) : AtS p l e R s m args below meth c Z EL own n0 Q mk sf h cells slots (mkF m pc L (.null :: S)) := by
  subst hq
  exact K.go fun T hA t st => XS.ifnonnullNo hA C.1 rfl (hb C.2.1 hd) rfl st
theorem s_acmp_t (C : Cx p s m meth c Z own bytes maxL ret nm) {cd : ACond} {o : Int} {x y : Value} (hd : decode bytes pc = .ok (.if_acmp cd o, 3)) (h1 : x.isRef = true) (h2 : y.isRef = true) {same : Bool} (hs : decide (x = y) = same) (hcd : acV cd same = true) (ho : 0 ≤ (pc : Int) + o) (hp : ((pc : Int) + o).toNat = q) (K : AtS p l e R s m args below meth c Z EL own n0 Q mk sf h cells slots (mkF m q L S)) : AtS p l e R s m args below meth c Z EL own n0 Q mk sf h cells slots (mkF m pc L (y :: x :: S)) :=
  K.goX fun T locs k n vm0 X eT hZ hown t st => Jvm.RoadKit.acmp (g := mkF m pc L (y :: x :: S)) X C.1 rfl h1 h2 (pc0 := pc) (pc' := q) (same := same) rfl (hb C.2.1 hd) rfl hs ho (by rw [if_pos hcd]; exact hp.symm) st
theorem s_acmp_f (C : Cx p s m meth c Z own bytes maxL ret nm) {cd : ACond} {o : Int} {x y : Value} (hd : decode bytes pc = .ok (.if_acmp cd o, 3)) (h1 : x.isRef = true) (h2 : y.isRef = true) {same : Bool} (hs : decide (x = y) = same) (hcd : acV cd same = false) (ho : 0 ≤ (pc : Int) + o) (hq : pc + 3 = q) (K : AtS p l e R s m args below meth c Z EL own n0 Q mk sf h cells slots (mkF m q L S)) : AtS p l e R s m args below meth c Z EL own n0 Q mk sf h cells slots (mkF m pc L (y :: x :: S)) :=
  K.goX fun T locs k n vm0 X eT hZ hown t st => Jvm.RoadKit.acmp (g := mkF m pc L (y :: x :: S)) X C.1 rfl h1 h2 (pc0 := pc) (pc' := q) (same := same) rfl (hb C.2.1 hd) rfl hs ho (by rw [if_neg (by rw [hcd]; exact Bool.false_ne_true)]; exact hq.symm) st
theorem s_ldcI (C : Cx p s m meth c Z own bytes maxL ret nm) {i : Nat} {v : Int32} (w : (Jvm.Cond.constant own i v).before a0 Z = true) (hd : decode bytes pc = .ok (.ldc i, 2)) (hq : pc + 2 = q) (K : AtS p l e R s m args below meth c Z EL own n0 Q mk sf h cells slots (mkF m q L (.int v :: S))) : AtS p l e R s m args below meth c Z EL own n0 Q mk sf h cells slots (mkF m pc L S) := by
  subst hq
  exact K.goX fun T locs k n vm0 X eT hZ hown t st => X.ldcInt C.1 hown (mvT (s := s.setVm vm0) hZ w) (g := mkF m pc L S) rfl (hb C.2.1 hd) t st
theorem s_ldcwI (C : Cx p s m meth c Z own bytes maxL ret nm) {i : Nat} {v : Int32} (w : (Jvm.Cond.constant own i v).before a0 Z = true) (hd : decode bytes pc = .ok (.ldc_w i, 3)) (hq : pc + 3 = q) (K : AtS p l e R s m args below meth c Z EL own n0 Q mk sf h cells slots (mkF m q L (.int v :: S))) : AtS p l e R s m args below meth c Z EL own n0 Q mk sf h cells slots (mkF m pc L S) := by
  subst hq
  exact K.goX fun T locs k n vm0 X eT hZ hown t st => X.ldcwInt C.1 hown (mvT (s := s.setVm vm0) hZ w) (g := mkF m pc L S) rfl (hb C.2.1 hd) t st
theorem s_ldc2J (C : Cx p s m meth c Z own bytes maxL ret nm) {i : Nat} {v : Int64} (w : (Jvm.Cond.constantLong own i v).before a0 Z = true) (hd : decode bytes pc = .ok (.ldc2_w i, 3)) (hq : pc + 3 = q) (K : AtS p l e R s m args below meth c Z EL own n0 Q mk sf h cells slots (mkF m q L (.long v :: S))) : AtS p l e R s m args below meth c Z EL own n0 Q mk sf h cells slots (mkF m pc L S) := by
  subst hq
  exact K.goX fun T locs k n vm0 X eT hZ hown t st => X.ldc2Long C.1 hown (mvT (s := s.setVm vm0) hZ w) (g := mkF m pc L S) rfl (hb C.2.1 hd) t st

theorem s_getF (C : Cx p s m meth c Z own bytes maxL ret nm) {R0 O n d host : String} {i : Nat} {a : Addr} {v : Value} (w : (Jvm.Cond.fieldLink own i R0 n d).before a0 Z = true ∨ (Jvm.Cond.fieldLinkNest own i R0 n d host).before a0 Z = true) (via : Via Z R0 O n d) (F : Fld Z h a O n d v) (hd : decode bytes pc = .ok (.getfield i, 3)) (hq : pc + 3 = q) (K : AtS p l e R s m args below meth c Z EL own n0 Q mk sf h cells slots (mkF m q L (v :: S))) : AtS p l e R s m args below meth c Z EL own n0 Q mk sf h cells slots (mkF m pc L (.ref a :: S)) := by
  subst hq
  intro T locs k n vm0 k0 X hk hn eT N hZ hown hS hk0 hC hB hF
  obtain ⟨T', X', e', st⟩ := getF X C.1 (show Z.Warmed39 (s.setVm vm0).vm from hZ) (host := host) hown w via eT F (g := mkF m pc L (.ref a :: S)) rfl rfl (hb C.2.1 hd)
  obtain ⟨t, o, r1, r⟩ := K T' locs k n vm0 k0 X' hk hn e' N hZ hown hS hk0 hC hB hF
  exact ⟨t, o, st _ r1, r⟩
theorem s_getS (C : Cx p s m meth c Z own bytes maxL ret nm) {R0 O n d host : String} {i : Nat} {v : Value} (w : (Jvm.Cond.fieldLink own i R0 n d).before a0 Z = true ∨ (Jvm.Cond.fieldLinkNest own i R0 n d host).before a0 Z = true) (via : Via Z R0 O n d) (F : Sta Z h O n d v) (hd : decode bytes pc = .ok (.getstatic i, 3)) (hq : pc + 3 = q) (K : AtS p l e R s m args below meth c Z EL own n0 Q mk sf h cells slots (mkF m q L (v :: S))) : AtS p l e R s m args below meth c Z EL own n0 Q mk sf h cells slots (mkF m pc L S) := by
  subst hq
  intro T locs k n vm0 k0 X hk hn eT N hZ hown hS hk0 hC hB hF
  obtain ⟨T', X', e', st⟩ := getS2 X C.1 (show Z.Warmed39 (s.setVm vm0).vm from hZ) (host := host) hown w via eT F (g := mkF m pc L S) rfl (hb C.2.1 hd)
  obtain ⟨t, o, r1, r⟩ := K T' locs k n vm0 k0 X' hk hn e' N hZ hown hS hk0 hC hB hF
  exact ⟨t, o, st _ r1, r⟩
theorem s_cast (C : Cx p s m meth c Z own bytes maxL ret nm) {K : String} {i : Nat} {a : Addr} (w : (Jvm.Cond.classLink own i K).before a0 Z = true) (F : Ins Z h a K true) (hd : decode bytes pc = .ok (.checkcast i, 3)) (hq : pc + 3 = q) (K : AtS p l e R s m args below meth c Z EL own n0 Q mk sf h cells slots (mkF m q L (.ref a :: S))) : AtS p l e R s m args below meth c Z EL own n0 Q mk sf h cells slots (mkF m pc L (.ref a :: S)) := by
  subst hq
  intro T locs k n vm0 k0 X hk hn eT N hZ hown hS hk0 hC hB hF
  obtain ⟨T', X', e', st⟩ := castY X C.1 (show Z.Warmed39 (s.setVm vm0).vm from hZ) hown w eT F (g := mkF m pc L (.ref a :: S)) rfl rfl (hb C.2.1 hd)
  obtain ⟨t, o, r1, r⟩ := K T' locs k n vm0 k0 X' hk hn e' N hZ hown hS hk0 hC hB hF
  exact ⟨t, o, st _ r1, r⟩
theorem s_inst (C : Cx p s m meth c Z own bytes maxL ret nm) {K : String} {i : Nat} {a : Addr} (w : (Jvm.Cond.classLink own i K).before a0 Z = true) (F : Ins Z h a K true) (hd : decode bytes pc = .ok (.instanceof i, 3)) (hq : pc + 3 = q) (K : AtS p l e R s m args below meth c Z EL own n0 Q mk sf h cells slots (mkF m q L (.int 1 :: S))) : AtS p l e R s m args below meth c Z EL own n0 Q mk sf h cells slots (mkF m pc L (.ref a :: S)) := by
  subst hq
  intro T locs k n vm0 k0 X hk hn eT N hZ hown hS hk0 hC hB hF
  obtain ⟨T', X', e', st⟩ := instY X C.1 (show Z.Warmed39 (s.setVm vm0).vm from hZ) hown w eT F (g := mkF m pc L (.ref a :: S)) rfl rfl (hb C.2.1 hd)
  obtain ⟨t, o, r1, r⟩ := K T' locs k n vm0 k0 X' hk hn e' N hZ hown hS hk0 hC hB hF
  exact ⟨t, o, st _ r1, r⟩
theorem s_initO (C : Cx p s m meth c Z own bytes maxL ret nm) {i : Nat} {a : Addr} (w1 : (Jvm.Cond.methodLink own i Lib.objectInit).before a0 Z = true) (w2 : (Jvm.Cond.instanceMethod Lib.objectInit).before a0 Z = true) (w3 : (Jvm.Cond.code Lib.objectInit object_method_1_code 1 none).before a0 Z = true) (hL : L.size = maxL) (hf : 1 ≤ R.frames) {W : Nat} (hW : (S.map fun v => v.category).sum ≤ W) (hlo : W + 12 ≤ R.locals) (hd : decode bytes pc = .ok (.invokespecial i, 3)) (hq : pc + 3 = q) (K : AtS p l e R s m args below meth c Z EL own n0 Q mk sf h cells slots (mkF m q L S)) : AtS p l e R s m args below meth c Z EL own n0 Q mk sf h cells slots (mkF m pc L (.ref a :: S)) := by
  subst hq
  intro T locs k n vm0 k0 X hk hn eT N hZ hown hS hk0 hC hB hF
  obtain ⟨T', X', e', st⟩ := initO X C.1 (show Z.Warmed39 (s.setVm vm0).vm from hZ) hown w1 w2 w3 eT (g := mkF m pc L (.ref a :: S)) rfl (hL.trans C.2.2.1.symm) rfl (hb C.2.1 hd) hf (W := W) (by show 2 * 0 + _ ≤ _; omega) hlo
  obtain ⟨t, o, r1, r⟩ := K T' locs k n vm0 k0 X' hk hn e' N hZ hown hS hk0 hC hB hF
  exact ⟨t, o, st _ r1, r⟩
/-- an address that no booked constant has -/
def SfOk (Z : State) (h : Heap) (mk : Nat) (sf : List Addr) (x : Addr) : Prop := x ∈ sf ∨ mk ≤ x ∨ (∃ C, Exa Z h x C ∧ C ≠ "java/lang/String" ∧ C ≠ "[B") ∨ ∃ ty vs, Ar Z h x ty vs ∧ ty ≠ .byte
theorem SfOk.exa {x : Addr} {C : String} (E : Exa Z h x C) (h1 : C ≠ "java/lang/String" ∧ C ≠ "[B") : SfOk Z h mk sf x := Or.inr (Or.inr (Or.inl ⟨C, E, h1⟩))
theorem SfOk.arr {x : Addr} {ty : FieldType} {vs : List Value} (E : Ar Z h x ty vs) (h1 : ty ≠ .byte) : SfOk Z h mk sf x := Or.inr (Or.inr (Or.inr ⟨ty, vs, E, h1⟩))
theorem SfOk.mem {x : Addr} (q : x ∈ sf) : SfOk Z h mk sf x := Or.inl q
theorem SfOk.new {x : Addr} (q : mk ≤ x) : SfOk Z h mk sf x := Or.inr (Or.inl q)
theorem SfOk.safe {vm0 : Vm} {x : Addr} (F : SfOk Z h mk sf x) (hal : Z.vm.Alike vm0) (hB : ∀ y, Bk Z EL vm0 h y → y < mk) (hF : ∀ x ∈ sf, x < h.size ∧ Safe Z EL vm0 h x) : Safe Z EL vm0 h x := by
  rcases F with q | q | ⟨C, E, h1, h2⟩ | ⟨ty, vs, A, hne⟩
  · exact (hF x q).2
  · exact fun b => Nat.not_lt.mpr q (hB _ b)
  · exact Safe.exa hal E h1 h2
  · obtain ⟨-, k, V⟩ := A; exact Safe.arv hal V hne
theorem s_putF (C : Cx p s m meth c Z own bytes maxL ret nm) {R0 O n d host Cl : String} {i kk : Nat} {ty : FieldType} {a : Addr} {v v' old : Value} (w : (Jvm.Cond.fieldLink own i R0 n d).before a0 Z = true) (via : Via Z R0 O n d) (F : Fld Z h a O n d old) (E : Exa Z h a Cl)
    (hL : (Jvm.Cond.lays Cl O n d).before a0 Z = true ∨ ((Jvm.Cond.laysFinal Cl O n d).before a0 Z = true ∧ own = O ∧ nm = "<init>")) (wi : (Jvm.Cond.instantiable Cl kk).before a0 Z = true) (hty : parseFieldDescriptor d = some ty) (hn : narrow ty v = v') (hf : fits ty v' = true) (hge : n0 ≤ a) (hsf : SfOk Z h mk sf a)
    (hd : decode bytes pc = .ok (.putfield i, 3)) (hq : pc + 3 = q) (K : ∀ h', Wr h h' a (Jvm.RoadKit.slotOf Z O n d) v' → AtS p l e R s m args below meth c Z EL own n0 Q mk sf h' cells slots (mkF m q L S)) : AtS p l e R s m args below meth c Z EL own n0 Q mk sf h cells slots (mkF m pc L (v :: .ref a :: S)) := by
  subst hq
  intro T locs k n' vm0 k0 X hk hn' eT N hZ hown hS hk0 hC hB hF
  have hL' : (Jvm.Cond.lays Cl O n d).before a0 Z = true ∨ ((Jvm.Cond.laysFinal Cl O n d).before a0 Z = true ∧ own = O ∧ meth.name = "<init>") := hL.imp id fun x => ⟨x.1, x.2.1, C.2.2.2.2.2.2.2.trans x.2.2⟩
  obtain ⟨T', h', X', e', W, st⟩ := putFN X C.1 (show Z.Warmed39 (s.setVm vm0).vm from hZ) hown w via eT F E hL' wi hty hn hf (g := mkF m pc L (v :: .ref a :: S)) rfl rfl (hb C.2.1 hd)
  have hsafe := hsf.safe hZ.alike hB hF
  obtain ⟨H', hB'⟩ := hC.1.wrStep W hsafe
  obtain ⟨t, o, r1, r⟩ := K h' W T' _ k n' vm0 k0 X' hk hn' e' (Fr.snoc X' N hge) hZ hown hS (by rw [W.size]; exact hk0) (hC.trans (CHr.wr W hsafe hC.1)) (fun y hy => hB y (hB' y hy)) (fun x hx => ⟨by rw [W.size]; exact (hF x hx).1, Safe.wr W hsafe hC.1 (hF x hx).2⟩)
  exact ⟨t, o, st _ r1, r⟩
theorem s_new (C : Cx p s m meth c Z own bytes maxL ret nm) {Cl : String} {i n : Nat} (w : (Jvm.Cond.classLink own i Cl).before a0 Z = true) (wi : (Jvm.Cond.instantiable Cl n).before a0 Z = true) (wz : (Jvm.Cond.initialized Cl).before a0 Z = true) {cells' slots' : Nat} (hc1 : cells + 1 = cells') (hs1 : slots + n = slots') (hc : cells' ≤ R.cells) (hl : slots' ≤ R.slots)
    (hd : decode bytes pc = .ok (.new i, 3)) (hq : pc + 3 = q) (K : ∀ h' a, a = h.size → Ext h h' → Exa Z h' a Cl → (∀ {O nm d : String} {ty : FieldType}, RoadKit.Laid Z a0 Cl O nm d → parseFieldDescriptor d = some ty → Fld Z h' a O nm d (defaultValue ty)) → AtS p l e R s m args below meth c Z EL own n0 Q mk (a :: sf) h' cells' slots' (mkF m q L (.ref a :: S))) : AtS p l e R s m args below meth c Z EL own n0 Q mk sf h cells slots (mkF m pc L S) := by
  subst hq hc1 hs1
  intro T locs k n' vm0 k0 X hk hn' eT N hZ hown hS hk0 hC hB hF
  obtain ⟨T', h', X', e', E, A, D, -, st⟩ := newO X C.1 (show Z.Warmed39 (s.setVm vm0).vm from hZ) hown w wi wz eT (g := mkF m pc L S) rfl (hb C.2.1 hd) (by omega) (by omega)
  obtain ⟨H', hB'⟩ := hC.1.step (h' := h') fun y _ cell hc => E.2 _ _ hc
  have hs : ∀ x ∈ h.size :: sf, x < h'.size ∧ Safe Z EL vm0 h' x := fun x hx => by
    rcases List.mem_cons.mp hx with rfl | hx
    · exact ⟨A.lt, (Safe.new (Nat.le_refl _)).ext E hC.1⟩
    · exact ⟨Nat.lt_of_lt_of_le (hF x hx).1 E.1, (hF x hx).2.ext E hC.1⟩
  obtain ⟨t, o, r1, r⟩ := K h' h.size rfl E A D T' _ (k + 1) (n' + n) vm0 k0 X' (by omega) (by omega) e' N hZ hown hS (Nat.le_trans hk0 E.1) (hC.trans (CHr.ext E hC.1)) (fun y hy => hB y (hB' y hy)) hs
  exact ⟨t, o, st _ r1, r⟩
theorem s_newArr (C : Cx p s m meth c Z own bytes maxL ret nm) {aty : ArrayType} {ty : FieldType} {n : Int32} (w : (Jvm.Cond.arrayClass ty).before a0 Z = true) (hty : newarray.typeOf aty = ty) (hn : ¬ n < 0) {cap : Nat} (hcap : n.toNatClampNeg ≤ cap) (hb' : cap * 8 ≤ 536870912) {cells' slots' : Nat} (hc1 : cells + 1 = cells') (hs1 : slots + cap = slots') (hc : cells' ≤ R.cells) (hl : slots' ≤ R.slots)
    (hd : decode bytes pc = .ok (.newarray aty, 2)) (hq : pc + 2 = q) (K : ∀ h' a, a = h.size → Ext h h' → Ar Z h' a ty (List.replicate n.toNatClampNeg (defaultValue ty)) → AtS p l e R s m args below meth c Z EL own n0 Q mk (a :: sf) h' cells' slots' (mkF m q L (.ref a :: S))) : AtS p l e R s m args below meth c Z EL own n0 Q mk sf h cells slots (mkF m pc L (.int n :: S)) := by
  subst hq hc1 hs1 hty
  intro T locs k n' vm0 k0 X hk hn' eT N hZ hown hS hk0 hC hB hF
  obtain ⟨T', h', cA, X', e', E, A, st⟩ := newP X C.1 (show Z.Warmed39 (s.setVm vm0).vm from hZ) w eT (g := mkF m pc L (.int n :: S)) rfl (hb C.2.1 hd) rfl hn hcap hb' (by omega) (by omega)
  have q := nat_of_nonneg hn
  have V := (Arv.new A hn).pad (pad_rep [] (defaultValue (newarray.typeOf aty)) n.toNatClampNeg)
  obtain ⟨H', hB'⟩ := hC.1.step (h' := h') fun y _ cell hc => E.2 _ _ hc
  have hs : ∀ x ∈ h.size :: sf, x < h'.size ∧ Safe Z EL vm0 h' x := fun x hx => by
    rcases List.mem_cons.mp hx with rfl | hx
    · exact ⟨V.lt, (Safe.new (Nat.le_refl _)).ext E hC.1⟩
    · exact ⟨Nat.lt_of_lt_of_le (hF x hx).1 E.1, (hF x hx).2.ext E hC.1⟩
  obtain ⟨t, o, r1, r⟩ := K h' h.size rfl E ⟨by simpa using q.2, cA, by simpa [q.1] using V⟩ T' _ (k + 1) (n' + cap) vm0 k0 X' (by omega) (by omega) e' N hZ hown hS (Nat.le_trans hk0 E.1) (hC.trans (CHr.ext E hC.1)) (fun y hy => hB y (hB' y hy)) hs
  exact ⟨t, o, st _ r1, r⟩
theorem s_len (C : Cx p s m meth c Z own bytes maxL ret nm) {a : Addr} {ty : FieldType} {vs : List Value} {z : Int32} (A : Ar Z h a ty vs) (hz : Int32.ofNat vs.length = z) (hd : decode bytes pc = .ok (.arraylength, 1)) (hq : pc + 1 = q) (K : AtS p l e R s m args below meth c Z EL own n0 Q mk sf h cells slots (mkF m q L (.int z :: S))) : AtS p l e R s m args below meth c Z EL own n0 Q mk sf h cells slots (mkF m pc L (.ref a :: S)) := by
  subst hq hz
  obtain ⟨hlt, k, cl, Ar, -, hS, hM, -, -⟩ := A
  refine K.goX fun T locs k n vm0 X eT hZ hown t st => X.arraylength C.1 (by rw [eT]; exact Ar.1) (State.isArrayOf_alike (T := s.setVm vm0) hZ.alike Ar.2.1) (g := mkF m pc L (.ref a :: S)) rfl rfl (hb C.2.1 hd) t ?_
  rw [len_of hS hM]; exact st

theorem s_iaload (C : Cx p s m meth c Z own bytes maxL ret nm) {a : Addr} {vs : List Value} {j : Int32} {i : Nat} {v : Value} (A : Ar Z h a .int vs) (hj : j = Int32.ofNat i) (hv : vs[i]? = some v) (hd : decode bytes pc = .ok (.iaload, 1)) (hq : pc + 1 = q) (K : AtS p l e R s m args below meth c Z EL own n0 Q mk sf h cells slots (mkF m q L (v :: S))) : AtS p l e R s m args below meth c Z EL own n0 Q mk sf h cells slots (mkF m pc L (.int j :: .ref a :: S)) := by
  subst hq hj
  obtain ⟨hlt, k, cl, Ar, -, hS, hM, H, -⟩ := A
  obtain ⟨hi, hg⟩ := List.getElem?_eq_some_iff.mp hv
  have e1 := ofNat_nat (n := i) (by omega)
  have e2 := ofNat_nat hlt
  have hin : ¬ (Int32.ofNat i < 0 ∨ cl.slots.size ≤ (Int32.ofNat i).toNatClampNeg) := by
    rw [e1, hS, e2]; exact fun q => q.elim (ofNat_neg (by omega)) (by omega)
  refine K.goX fun T locs k n vm0 X eT hZ hown t st => X.iaload C.1 (j := Int32.ofNat i) (v := v) (by rw [eT]; exact Ar.1) (State.isArrayOf_alike (T := s.setVm vm0) hZ.alike Ar.2.1) Ar.2.2 hin (by rw [e1, H i (by rw [hS, e2]; exact hi)]; simp [List.getD, hv]) (g := mkF m pc L (.int (Int32.ofNat i) :: .ref a :: S)) rfl rfl (hb C.2.1 hd) t st
theorem s_caload (C : Cx p s m meth c Z own bytes maxL ret nm) {a : Addr} {vs : List Value} {j : Int32} {i : Nat} {v : Value} (A : Ar Z h a .char vs) (hj : j = Int32.ofNat i) (hv : vs[i]? = some v) (hd : decode bytes pc = .ok (.caload, 1)) (hq : pc + 1 = q) (K : AtS p l e R s m args below meth c Z EL own n0 Q mk sf h cells slots (mkF m q L (v :: S))) : AtS p l e R s m args below meth c Z EL own n0 Q mk sf h cells slots (mkF m pc L (.int j :: .ref a :: S)) := by
  subst hq hj
  obtain ⟨hlt, k, cl, Ar, -, hS, hM, H, -⟩ := A
  obtain ⟨hi, hg⟩ := List.getElem?_eq_some_iff.mp hv
  have e1 := ofNat_nat (n := i) (by omega)
  have e2 := ofNat_nat hlt
  have hin : ¬ (Int32.ofNat i < 0 ∨ cl.slots.size ≤ (Int32.ofNat i).toNatClampNeg) := by
    rw [e1, hS, e2]; exact fun q => q.elim (ofNat_neg (by omega)) (by omega)
  refine K.goX fun T locs k n vm0 X eT hZ hown t st => X.caload C.1 (j := Int32.ofNat i) (v := v) (by rw [eT]; exact Ar.1) (State.isArrayOf_alike (T := s.setVm vm0) hZ.alike Ar.2.1) Ar.2.2 hin (by rw [e1, H i (by rw [hS, e2]; exact hi)]; simp [List.getD, hv]) (g := mkF m pc L (.int (Int32.ofNat i) :: .ref a :: S)) rfl rfl (hb C.2.1 hd) t st
theorem s_baload (C : Cx p s m meth c Z own bytes maxL ret nm) {a : Addr} {vs : List Value} {j : Int32} {i : Nat} {v : Value} (A : Ar Z h a .byte vs) (hj : j = Int32.ofNat i) (hv : vs[i]? = some v) (hd : decode bytes pc = .ok (.baload, 1)) (hq : pc + 1 = q) (K : AtS p l e R s m args below meth c Z EL own n0 Q mk sf h cells slots (mkF m q L (v :: S))) : AtS p l e R s m args below meth c Z EL own n0 Q mk sf h cells slots (mkF m pc L (.int j :: .ref a :: S)) := by
  subst hq hj
  obtain ⟨hlt, k, cl, Ar, -, hS, hM, H, -⟩ := A
  obtain ⟨hi, hg⟩ := List.getElem?_eq_some_iff.mp hv
  have e1 := ofNat_nat (n := i) (by omega)
  have e2 := ofNat_nat hlt
  have hin : ¬ (Int32.ofNat i < 0 ∨ cl.slots.size ≤ (Int32.ofNat i).toNatClampNeg) := by
    rw [e1, hS, e2]; exact fun q => q.elim (ofNat_neg (by omega)) (by omega)
  refine K.goX fun T locs k n vm0 X eT hZ hown t st => X.baloadBytes C.1 (j := Int32.ofNat i) (v := v) (by rw [eT]; exact Ar.1) (State.isArrayOf_alike (T := s.setVm vm0) hZ.alike Ar.2.1) Ar.2.2 hin (by rw [e1, H i (by rw [hS, e2]; exact hi)]; simp [List.getD, hv]) (g := mkF m pc L (.int (Int32.ofNat i) :: .ref a :: S)) rfl rfl (hb C.2.1 hd) t st
theorem s_laload (C : Cx p s m meth c Z own bytes maxL ret nm) {a : Addr} {vs : List Value} {j : Int32} {i : Nat} {v : Value} (A : Ar Z h a .long vs) (hj : j = Int32.ofNat i) (hv : vs[i]? = some v) (hd : decode bytes pc = .ok (.laload, 1)) (hq : pc + 1 = q) (K : AtS p l e R s m args below meth c Z EL own n0 Q mk sf h cells slots (mkF m q L (v :: S))) : AtS p l e R s m args below meth c Z EL own n0 Q mk sf h cells slots (mkF m pc L (.int j :: .ref a :: S)) := by
  subst hq hj
  obtain ⟨hlt, k, cl, Ar, -, hS, hM, H, -⟩ := A
  obtain ⟨hi, hg⟩ := List.getElem?_eq_some_iff.mp hv
  have e1 := ofNat_nat (n := i) (by omega)
  have e2 := ofNat_nat hlt
  have hin : ¬ (Int32.ofNat i < 0 ∨ cl.slots.size ≤ (Int32.ofNat i).toNatClampNeg) := by
    rw [e1, hS, e2]; exact fun q => q.elim (ofNat_neg (by omega)) (by omega)
  refine K.goX fun T locs k n vm0 X eT hZ hown t st => X.laload C.1 (j := Int32.ofNat i) (v := v) (by rw [eT]; exact Ar.1) (State.isArrayOf_alike (T := s.setVm vm0) hZ.alike Ar.2.1) Ar.2.2 hin (by rw [e1, H i (by rw [hS, e2]; exact hi)]; simp [List.getD, hv]) (g := mkF m pc L (.int (Int32.ofNat i) :: .ref a :: S)) rfl rfl (hb C.2.1 hd) t st
theorem s_aaload (C : Cx p s m meth c Z own bytes maxL ret nm) {a : Addr} {ty : FieldType} {vs : List Value} {j : Int32} {i : Nat} {v : Value} (A : Ar Z h a ty vs) (hj : j = Int32.ofNat i) (hv : vs[i]? = some v) (hr : ty.isReference = true) (hd : decode bytes pc = .ok (.aaload, 1)) (hq : pc + 1 = q) (K : AtS p l e R s m args below meth c Z EL own n0 Q mk sf h cells slots (mkF m q L (v :: S))) : AtS p l e R s m args below meth c Z EL own n0 Q mk sf h cells slots (mkF m pc L (.int j :: .ref a :: S)) := by
  subst hq hj
  obtain ⟨hlt, k, cl, Ar, -, hS, hM, H, -⟩ := A
  obtain ⟨hi, hg⟩ := List.getElem?_eq_some_iff.mp hv
  have e1 := ofNat_nat (n := i) (by omega)
  have e2 := ofNat_nat hlt
  have hin : ¬ (Int32.ofNat i < 0 ∨ cl.slots.size ≤ (Int32.ofNat i).toNatClampNeg) := by
    rw [e1, hS, e2]; exact fun q => q.elim (ofNat_neg (by omega)) (by omega)
  refine K.goX fun T locs k n vm0 X eT hZ hown t st => X.aaload C.1 (j := Int32.ofNat i) (v := v) (by rw [eT]; exact Ar.1) (State.isArrayOf_alike (T := s.setVm vm0) hZ.alike Ar.2.1) hr Ar.2.2 hin (by rw [e1, H i (by rw [hS, e2]; exact hi)]; simp [List.getD, hv]) (g := mkF m pc L (.int (Int32.ofNat i) :: .ref a :: S)) rfl rfl (hb C.2.1 hd) t st
theorem s_iastore (C : Cx p s m meth c Z own bytes maxL ret nm) {a : Addr} {vs : List Value} {j : Int32} {i : Nat} {x : Int32} (A : Ar Z h a .int vs) (hj : j = Int32.ofNat i) (hi : i < vs.length) (hge : n0 ≤ a) (hd : decode bytes pc = .ok (.iastore, 1)) (hq : pc + 1 = q)
    (K : ∀ h', Wr h h' a i (.int x) → Ar Z h' a .int (vs.set i (.int x)) → AtS p l e R s m args below meth c Z EL own n0 Q mk sf h' cells slots (mkF m q L S)) : AtS p l e R s m args below meth c Z EL own n0 Q mk sf h cells slots (mkF m pc L (.int x :: .int j :: .ref a :: S)) := by
  subst hq hj
  intro T locs k n' vm0 k0 X hk hn' eT N hZ hown hS0 hk0 hC hB hF
  have hsafe := SfOk.safe (mk := mk) (sf := sf) (SfOk.arr A (by decide)) hZ.alike hB hF
  obtain ⟨hlt, k', cl, Ar, q1, hS, hM, H, G⟩ := A
  have e1 := ofNat_nat (n := i) (by omega)
  have e2 := ofNat_nat hlt
  have hin : ¬ (Int32.ofNat i < 0 ∨ cl.slots.size ≤ (Int32.ofNat i).toNatClampNeg) := by
    rw [e1, hS, e2]; exact fun q => q.elim (ofNat_neg (by omega)) (by omega)
  obtain ⟨T', h', X', e', W, st⟩ := stI X C.1 (show Z.Warmed39 (s.setVm vm0).vm from hZ) eT Ar (j := Int32.ofNat i) (x := x) hin (g := mkF m pc L (.int x :: .int (Int32.ofNat i) :: .ref a :: S)) rfl rfl (hb C.2.1 hd)
  have V := Arv.set Ar q1 hS hM H G (rfl) W i e1 hi
  obtain ⟨H', hB'⟩ := hC.1.wrStep W hsafe
  obtain ⟨t, o, r1, r⟩ := K h' (by rw [e1] at W; exact W) ⟨by simpa using hlt, k', by rw [List.length_set]; exact V⟩ T' _ k n' vm0 k0 X' hk hn' e' (Fr.snoc X' N hge) hZ hown hS0 (by rw [W.size]; exact hk0) (hC.trans (CHr.wr W hsafe hC.1)) (fun y hy => hB y (hB' y hy)) (fun x hx => ⟨by rw [W.size]; exact (hF x hx).1, Safe.wr W hsafe hC.1 (hF x hx).2⟩)
  exact ⟨t, o, st _ r1, r⟩
theorem s_castore (C : Cx p s m meth c Z own bytes maxL ret nm) {a : Addr} {vs : List Value} {j : Int32} {i : Nat} {x : Int32} {z : Int32} (hz : nar .char x = z) (A : Ar Z h a .char vs) (hj : j = Int32.ofNat i) (hi : i < vs.length) (hge : n0 ≤ a) (hd : decode bytes pc = .ok (.castore, 1)) (hq : pc + 1 = q)
    (K : ∀ h', Wr h h' a i (.int z) → Ar Z h' a .char (vs.set i (.int z)) → AtS p l e R s m args below meth c Z EL own n0 Q mk sf h' cells slots (mkF m q L S)) : AtS p l e R s m args below meth c Z EL own n0 Q mk sf h cells slots (mkF m pc L (.int x :: .int j :: .ref a :: S)) := by
  subst hq hj hz
  intro T locs k n' vm0 k0 X hk hn' eT N hZ hown hS0 hk0 hC hB hF
  have hsafe := SfOk.safe (mk := mk) (sf := sf) (SfOk.arr A (by decide)) hZ.alike hB hF
  obtain ⟨hlt, k', cl, Ar, q1, hS, hM, H, G⟩ := A
  have e1 := ofNat_nat (n := i) (by omega)
  have e2 := ofNat_nat hlt
  have hin : ¬ (Int32.ofNat i < 0 ∨ cl.slots.size ≤ (Int32.ofNat i).toNatClampNeg) := by
    rw [e1, hS, e2]; exact fun q => q.elim (ofNat_neg (by omega)) (by omega)
  obtain ⟨T', h', X', e', W, st⟩ := stC X C.1 (show Z.Warmed39 (s.setVm vm0).vm from hZ) eT Ar (j := Int32.ofNat i) (x := x) hin (g := mkF m pc L (.int x :: .int (Int32.ofNat i) :: .ref a :: S)) rfl rfl (hb C.2.1 hd)
  have V := Arv.set Ar q1 hS hM H G (fits_nar_char _) W i e1 hi
  obtain ⟨H', hB'⟩ := hC.1.wrStep W hsafe
  obtain ⟨t, o, r1, r⟩ := K h' (by rw [e1] at W; exact W) ⟨by simpa using hlt, k', by rw [List.length_set]; exact V⟩ T' _ k n' vm0 k0 X' hk hn' e' (Fr.snoc X' N hge) hZ hown hS0 (by rw [W.size]; exact hk0) (hC.trans (CHr.wr W hsafe hC.1)) (fun y hy => hB y (hB' y hy)) (fun x hx => ⟨by rw [W.size]; exact (hF x hx).1, Safe.wr W hsafe hC.1 (hF x hx).2⟩)
  exact ⟨t, o, st _ r1, r⟩
theorem s_bastore (C : Cx p s m meth c Z own bytes maxL ret nm) {a : Addr} {vs : List Value} {j : Int32} {i : Nat} {x : Int32} {z : Int32} (hz : nar .byte x = z) (A : Ar Z h a .byte vs) (hj : j = Int32.ofNat i) (hi : i < vs.length) (hge : n0 ≤ a) (hsf : SfOk Z h mk sf a) (hd : decode bytes pc = .ok (.bastore, 1)) (hq : pc + 1 = q)
    (K : ∀ h', Wr h h' a i (.int z) → Ar Z h' a .byte (vs.set i (.int z)) → AtS p l e R s m args below meth c Z EL own n0 Q mk sf h' cells slots (mkF m q L S)) : AtS p l e R s m args below meth c Z EL own n0 Q mk sf h cells slots (mkF m pc L (.int x :: .int j :: .ref a :: S)) := by
  subst hq hj hz
  intro T locs k n' vm0 k0 X hk hn' eT N hZ hown hS0 hk0 hC hB hF
  have hsafe := SfOk.safe (mk := mk) (sf := sf) hsf hZ.alike hB hF
  obtain ⟨hlt, k', cl, Ar, q1, hS, hM, H, G⟩ := A
  have e1 := ofNat_nat (n := i) (by omega)
  have e2 := ofNat_nat hlt
  have hin : ¬ (Int32.ofNat i < 0 ∨ cl.slots.size ≤ (Int32.ofNat i).toNatClampNeg) := by
    rw [e1, hS, e2]; exact fun q => q.elim (ofNat_neg (by omega)) (by omega)
  obtain ⟨T', h', X', e', W, st⟩ := stB X C.1 (show Z.Warmed39 (s.setVm vm0).vm from hZ) eT Ar (j := Int32.ofNat i) (x := x) hin (g := mkF m pc L (.int x :: .int (Int32.ofNat i) :: .ref a :: S)) rfl rfl (hb C.2.1 hd)
  have V := Arv.set Ar q1 hS hM H G (fits_nar_byte _) W i e1 hi
  obtain ⟨H', hB'⟩ := hC.1.wrStep W hsafe
  obtain ⟨t, o, r1, r⟩ := K h' (by rw [e1] at W; exact W) ⟨by simpa using hlt, k', by rw [List.length_set]; exact V⟩ T' _ k n' vm0 k0 X' hk hn' e' (Fr.snoc X' N hge) hZ hown hS0 (by rw [W.size]; exact hk0) (hC.trans (CHr.wr W hsafe hC.1)) (fun y hy => hB y (hB' y hy)) (fun x hx => ⟨by rw [W.size]; exact (hF x hx).1, Safe.wr W hsafe hC.1 (hF x hx).2⟩)
  exact ⟨t, o, st _ r1, r⟩
theorem s_lastore (C : Cx p s m meth c Z own bytes maxL ret nm) {a : Addr} {vs : List Value} {j : Int32} {i : Nat} {x : Int64} (A : Ar Z h a .long vs) (hj : j = Int32.ofNat i) (hi : i < vs.length) (hge : n0 ≤ a) (hd : decode bytes pc = .ok (.lastore, 1)) (hq : pc + 1 = q)
    (K : ∀ h', Wr h h' a i (.long x) → Ar Z h' a .long (vs.set i (.long x)) → AtS p l e R s m args below meth c Z EL own n0 Q mk sf h' cells slots (mkF m q L S)) : AtS p l e R s m args below meth c Z EL own n0 Q mk sf h cells slots (mkF m pc L (.long x :: .int j :: .ref a :: S)) := by
  subst hq hj
  intro T locs k n' vm0 k0 X hk hn' eT N hZ hown hS0 hk0 hC hB hF
  have hsafe := SfOk.safe (mk := mk) (sf := sf) (SfOk.arr A (by decide)) hZ.alike hB hF
  obtain ⟨hlt, k', cl, Ar, q1, hS, hM, H, G⟩ := A
  have e1 := ofNat_nat (n := i) (by omega)
  have e2 := ofNat_nat hlt
  have hin : ¬ (Int32.ofNat i < 0 ∨ cl.slots.size ≤ (Int32.ofNat i).toNatClampNeg) := by
    rw [e1, hS, e2]; exact fun q => q.elim (ofNat_neg (by omega)) (by omega)
  obtain ⟨T', h', X', e', W, st⟩ := stJ X C.1 (show Z.Warmed39 (s.setVm vm0).vm from hZ) eT Ar (j := Int32.ofNat i) (x := x) hin (g := mkF m pc L (.long x :: .int (Int32.ofNat i) :: .ref a :: S)) rfl rfl (hb C.2.1 hd)
  have V := Arv.set Ar q1 hS hM H G (rfl) W i e1 hi
  obtain ⟨H', hB'⟩ := hC.1.wrStep W hsafe
  obtain ⟨t, o, r1, r⟩ := K h' (by rw [e1] at W; exact W) ⟨by simpa using hlt, k', by rw [List.length_set]; exact V⟩ T' _ k n' vm0 k0 X' hk hn' e' (Fr.snoc X' N hge) hZ hown hS0 (by rw [W.size]; exact hk0) (hC.trans (CHr.wr W hsafe hC.1)) (fun y hy => hB y (hB' y hy)) (fun x hx => ⟨by rw [W.size]; exact (hF x hx).1, Safe.wr W hsafe hC.1 (hF x hx).2⟩)
  exact ⟨t, o, st _ r1, r⟩
theorem s_retZ (C : Cx p s m meth c Z own bytes maxL ret nm) (hEL : EW Z a0 EL) {t : FieldType} {x z : Int32} (hret : ret = some t) (ht : t = .boolean ∨ t = .byte ∨ t = .char ∨ t = .short) (hz : nar t x = z) (hd : decode bytes pc = .ok (.ireturn, 1)) (hc : cells ≤ R.cells) (hs : slots ≤ R.slots) (hQ : Q (some (.int z)) h) : AtS p l e R s m args below meth c Z EL own n0 Q mk sf h cells slots (mkF m pc L (.int x :: S)) := by
  subst hz
  intro T locs k n vm0 k0 X hk hn eT N hZ hown hS hk0 hC hB hF
  obtain ⟨fs, hr, hrun, hended, hW1, hW2, hW3, hW4⟩ := X.leaveW hS (by rw [eT]; exact hk0) (v := some (.int (nar t x))) (fun h => by rw [C.2.2.2.2.2.1, hret] at h; cases h) C.2.2.2.2.2.2.1
  have hA := hC.trans (CHv.at (h := h) X hZ hEL hC.1)
  refine ⟨_, _, retN X C.1 (t := t) (C.2.2.2.2.2.1.trans hret) ht (hb C.2.1 hd) hr, hrun, hended, _, _, rfl, ⟨N, ?_⟩, ?_, hW1, hW2, hW3, hW4.mono (Nat.le_trans hk hc) (Nat.le_trans hn hs)⟩
  · show Q _ T.heap
    rw [eT]; exact hQ
  · show CHr Z EL s.vm s.heap T.vm T.heap
    rw [eT]; exact hA
theorem s_ret (C : Cx p s m meth c Z own bytes maxL ret nm) (hEL : EW Z a0 EL) {t : FieldType} {v : Value} {i : Instr} (hret : ret = some t) (hn' : narrow t v = v)
    (hi : (i = .ireturn ∧ (t = .int ∨ t = .boolean ∨ t = .byte ∨ t = .char ∨ t = .short) ∧ ∃ z, v = .int z) ∨ (i = .lreturn ∧ t = .long ∧ ∃ z, v = .long z) ∨ (i = .dreturn ∧ t = .double ∧ ∃ z, v = .double z) ∨ (i = .freturn ∧ t = .float ∧ ∃ z, v = .float z) ∨ (i = .areturn ∧ t.isReference = true ∧ v.isRef = true))
    (hd : decode bytes pc = .ok (i, 1)) (hc : cells ≤ R.cells) (hs : slots ≤ R.slots) (hQ : Q (some v) h) : AtS p l e R s m args below meth c Z EL own n0 Q mk sf h cells slots (mkF m pc L (v :: S)) := by
  intro T locs k n vm0 k0 X hk hn eT N hZ hown hS hk0 hC hB hF
  obtain ⟨fs, hr, hrun, hended, hW1, hW2, hW3, hW4⟩ := X.leaveW hS (by rw [eT]; exact hk0) (v := some v) (fun h => by rw [C.2.2.2.2.2.1, hret] at h; cases h) C.2.2.2.2.2.2.1
  have hA := hC.trans (CHv.at (h := h) X hZ hEL hC.1)
  refine ⟨_, _, retOut X C.1 (t := t) (C.2.2.2.2.2.1.trans hret) hn' hi (hb C.2.1 hd) hr, hrun, hended, _, _, rfl, ⟨N, ?_⟩, ?_, hW1, hW2, hW3, hW4.mono (Nat.le_trans hk hc) (Nat.le_trans hn hs)⟩
  · show Q _ T.heap
    rw [eT]; exact hQ
  · show CHr Z EL s.vm s.heap T.vm T.heap
    rw [eT]; exact hA
theorem s_retI (C : Cx p s m meth c Z own bytes maxL ret nm) (hEL : EW Z a0 EL) {x : Int32} (hret : ret = some .int) (hd : decode bytes pc = .ok (.ireturn, 1)) (hc : cells ≤ R.cells) (hs : slots ≤ R.slots) (hQ : Q (some (.int x)) h) : AtS p l e R s m args below meth c Z EL own n0 Q mk sf h cells slots (mkF m pc L (.int x :: S)) :=
  s_ret C hEL hret rfl (Or.inl ⟨rfl, Or.inl rfl, _, rfl⟩) hd hc hs hQ
theorem s_retJ (C : Cx p s m meth c Z own bytes maxL ret nm) (hEL : EW Z a0 EL) {x : Int64} (hret : ret = some .long) (hd : decode bytes pc = .ok (.lreturn, 1)) (hc : cells ≤ R.cells) (hs : slots ≤ R.slots) (hQ : Q (some (.long x)) h) : AtS p l e R s m args below meth c Z EL own n0 Q mk sf h cells slots (mkF m pc L (.long x :: S)) :=
  s_ret C hEL hret rfl (Or.inr (Or.inl ⟨rfl, rfl, _, rfl⟩)) hd hc hs hQ
theorem s_retA (C : Cx p s m meth c Z own bytes maxL ret nm) (hEL : EW Z a0 EL) {t : FieldType} {v : Value} (hret : ret = some t) (ht : t.isReference = true) (hv : v.isRef = true) (hd : decode bytes pc = .ok (.areturn, 1)) (hc : cells ≤ R.cells) (hs : slots ≤ R.slots) (hQ : Q (some v) h) : AtS p l e R s m args below meth c Z EL own n0 Q mk sf h cells slots (mkF m pc L (v :: S)) :=
  s_ret C hEL hret (by rcases ref_cases hv with rfl | ⟨a, rfl⟩ <;> cases t <;> first | rfl | cases ht) (Or.inr (Or.inr (Or.inr (Or.inr ⟨rfl, ht, hv⟩)))) hd hc hs hQ
theorem s_retV (C : Cx p s m meth c Z own bytes maxL ret nm) (hEL : EW Z a0 EL) (hret : ret = none) (hd : decode bytes pc = .ok (.return_, 1)) (hc : cells ≤ R.cells) (hs : slots ≤ R.slots) (hQ : Q none h) : AtS p l e R s m args below meth c Z EL own n0 Q mk sf h cells slots (mkF m pc L []) := by
  intro T locs k n vm0 k0 X hk hn eT N hZ hown hS hk0 hC hB hF
  obtain ⟨fs, hr, hrun, hended, hW1, hW2, hW3, hW4⟩ := X.leaveW hS (by rw [eT]; exact hk0) (v := none) (fun h => by rfl) C.2.2.2.2.2.2.1
  have hA := hC.trans (CHv.at (h := h) X hZ hEL hC.1)
  refine ⟨_, _, X.returnOut C.1 (C.2.2.2.2.2.1.trans hret) (hb C.2.1 hd) hr, hrun, hended, _, _, rfl, ⟨N, ?_⟩, ?_, hW1, hW2, hW3, hW4.mono (Nat.le_trans hk hc) (Nat.le_trans hn hs)⟩
  · show Q _ T.heap
    rw [eT]; exact hQ
  · show CHr Z EL s.vm s.heap T.vm T.heap
    rw [eT]; exact hA

theorem s_callS1 (C : Cx p s m meth c Z own bytes maxL ret nm) {y : MethodName} {i : Nat} {argsL : List Value} {bytesY : ByteArray} {maxY : Nat} {retY : Option FieldType} {rm : Room} {Qy : Option Value → Heap → Prop} (w1 : (Jvm.Cond.methodLink own i y).before a0 Z = true) (w2 : (Jvm.Cond.static y).before a0 Z = true) (wz : (Jvm.Cond.initialized y.cls).before a0 Z = true) (wc : (Jvm.Cond.code y bytesY maxY retY).before a0 Z = true)
    (hy : y.cls ≠ "java/lang/invoke/MethodHandle" ∧ y.cls ≠ "java/lang/invoke/VarHandle") (ct : Ct [] l Z n0 y bytesY maxY retY rm argsL.toArray h Qy) {S' : List Value} (hS : S' = argsL.reverse ++ S) (hlen : ∀ sig, parseMethodDescriptor y.desc = some sig → argsL.length = sig.parameters.length) (hL : L.size = maxL) (hf : rm.frames + 1 ≤ R.frames) {W : Nat} (hW : (S.map fun v => v.category).sum ≤ W) (hlo : W + (maxY + 11) + rm.locals ≤ R.locals) {cells' slots' : Nat} (hc1 : cells + rm.cells = cells') (hs1 : slots + rm.slots = slots') (hc : cells' ≤ R.cells) (hl : slots' ≤ R.slots) {wl : List Addr} (hKp : ∀ v h', Qy v h' → Keep h h' wl) (hSf : ∀ x ∈ wl, SfOk Z h mk sf x)
    (hd : decode bytes pc = .ok (.invokestatic i, 3)) (hq : pc + 3 = q) (K : ∀ v h', Qy v h' → AtS p l e R s m args below meth c Z EL own n0 Q mk sf h' cells' slots' (mkF m q L (v.toList ++ S))) : AtS p l e R s m args below meth c Z EL own n0 Q mk sf h cells slots (mkF m pc L S') := by
  subst hq hc1 hs1
  intro T locs k n' vm0 k0 X hk hn' eT N hZ hown hS0 hk0 hC hB hF
  obtain ⟨v, _, ⟨T', L', k', n''⟩, -, X', ⟨Lc, hQ, hl', hc', hs'⟩, st⟩ := Jvm.LawKit.callS X C.1 (y := y) hown (mvT (s := s.setVm vm0) hZ w1) (mvT (s := s.setVm vm0) hZ w2) (mvT (s := s.setVm vm0) hZ wz) (mvT (s := s.setVm vm0) hZ wc) hy (backOf (s := s.setVm vm0) (W := W) (Q := fun v h L => Fr n0 L ∧ Qy v h) ct hZ wc wz hf hlo) (g := mkF m pc L S') rfl (hL.trans C.2.2.1.symm) (argsL := argsL) (rest := S) hlen hS (by show 2 * 0 + _ ≤ _; omega) (hb C.2.1 hd) (fun _ _ => ⟨rfl, eT, (by show k + _ ≤ _; omega), (by show n' + _ ≤ _; omega)⟩)
  dsimp only [Pt.U, Pt.locs, Pt.cells, Pt.slots] at X' hl' hc' hs' st hQ
  subst hl' hc' hs'
  have hKp' := hKp v T'.heap hQ.2
  have hsafe : ∀ x ∈ wl, Safe Z EL vm0 h x := fun x hx => (hSf x hx).safe hZ.alike hB hF
  obtain ⟨H', hB'⟩ := hC.1.keepStep hKp' hsafe
  obtain ⟨t, o, r1, r⟩ := K v T'.heap hQ.2 T' _ _ _ vm0 k0 X' (by omega) (by omega) rfl (Fr.app N hQ.1) hZ hown hS0 (Nat.le_trans hk0 hKp'.1) (hC.trans (CHr.keep hKp' hsafe hC.1)) (fun y hy => hB y (hB' y hy)) (fun x hx => ⟨Nat.lt_of_lt_of_le (hF x hx).1 hKp'.1, (hF x hx).2.keep hKp' hsafe hC.1⟩)
  exact ⟨t, o, st _ r1, r⟩
theorem s_callI1 (C : Cx p s m meth c Z own bytes maxL ret nm) {y : MethodName} {i : Nat} {a : Addr} {argsL : List Value} {bytesY : ByteArray} {maxY : Nat} {rm : Room} {Qy : Option Value → Heap → Prop} (hnm : y.name = "<init>") (w1 : (Jvm.Cond.methodLink own i y).before a0 Z = true) (w2 : (Jvm.Cond.instanceMethod y).before a0 Z = true) (wz : (Jvm.Cond.initialized y.cls).before a0 Z = true) (wc : (Jvm.Cond.code y bytesY maxY none).before a0 Z = true)
    (hy : y.cls ≠ "java/lang/invoke/MethodHandle" ∧ y.cls ≠ "java/lang/invoke/VarHandle") (ct : Ct [] l Z n0 y bytesY maxY none rm (.ref a :: argsL).toArray h Qy) {S' : List Value} (hS : S' = argsL.reverse ++ .ref a :: S) (hlen : ∀ sig, parseMethodDescriptor y.desc = some sig → argsL.length = sig.parameters.length) (hL : L.size = maxL) (hf : rm.frames + 1 ≤ R.frames) {W : Nat} (hW : (S.map fun v => v.category).sum ≤ W) (hlo : W + (maxY + 11) + rm.locals ≤ R.locals) {cells' slots' : Nat} (hc1 : cells + rm.cells = cells') (hs1 : slots + rm.slots = slots') (hc : cells' ≤ R.cells) (hl : slots' ≤ R.slots) {wl : List Addr} (hKp : ∀ v h', Qy v h' → Keep h h' wl) (hSf : ∀ x ∈ wl, SfOk Z h mk sf x)
    (hd : decode bytes pc = .ok (.invokespecial i, 3)) (hq : pc + 3 = q) (K : ∀ v h', Qy v h' → AtS p l e R s m args below meth c Z EL own n0 Q mk sf h' cells' slots' (mkF m q L (v.toList ++ S))) : AtS p l e R s m args below meth c Z EL own n0 Q mk sf h cells slots (mkF m pc L S') := by
  subst hq hc1 hs1
  intro T locs k n' vm0 k0 X hk hn' eT N hZ hown hS0 hk0 hC hB hF
  obtain ⟨v, _, ⟨T', L', k', n''⟩, -, X', ⟨Lc, hQ, hl', hc', hs'⟩, st⟩ := X.specialBack C.1 (y := y) hnm hown (mvT (s := s.setVm vm0) hZ w1) (mvT (s := s.setVm vm0) hZ w2) (mvT (s := s.setVm vm0) hZ wc) hy (backOf (s := s.setVm vm0) (W := W) (Q := fun v h L => Fr n0 L ∧ Qy v h) ct hZ wc wz hf hlo) (g := mkF m pc L S') rfl (hL.trans C.2.2.1.symm) (Steps.refl _) (a := a) (argsL := argsL) (rest := S) hlen hS (by show 2 * 0 + _ ≤ _; omega) (hb C.2.1 hd) (fun _ _ => ⟨rfl, eT, (by show k + _ ≤ _; omega), (by show n' + _ ≤ _; omega)⟩)
  dsimp only [Pt.U, Pt.locs, Pt.cells, Pt.slots] at X' hl' hc' hs' st hQ
  subst hl' hc' hs'
  have hKp' := hKp v T'.heap hQ.2
  have hsafe : ∀ x ∈ wl, Safe Z EL vm0 h x := fun x hx => (hSf x hx).safe hZ.alike hB hF
  obtain ⟨H', hB'⟩ := hC.1.keepStep hKp' hsafe
  obtain ⟨t, o, r1, r⟩ := K v T'.heap hQ.2 T' _ _ _ vm0 k0 X' (by omega) (by omega) rfl (Fr.app N hQ.1) hZ hown hS0 (Nat.le_trans hk0 hKp'.1) (hC.trans (CHr.keep hKp' hsafe hC.1)) (fun y hy => hB y (hB' y hy)) (fun x hx => ⟨Nat.lt_of_lt_of_le (hF x hx).1 hKp'.1, (hF x hx).2.keep hKp' hsafe hC.1⟩)
  exact ⟨t, o, st.trans r1, r⟩
theorem s_callV1 (C : Cx p s m meth c Z own bytes maxL ret nm) {y z : MethodName} {Cl : String} {i : Nat} {a : Addr} {argsL : List Value} {bytesY : ByteArray} {maxY : Nat} {retY : Option FieldType} {rm : Room} {Qy : Option Value → Heap → Prop} (E : Exa Z h a Cl) (w1 : (Jvm.Cond.methodLink own i y).before a0 Z = true) (w2 : (Jvm.Cond.declares y).before a0 Z = true) (hnf : ∀ vm0, Z.Warmed39 vm0 → NotFace (s.setVm vm0) y) (w3 : (Jvm.Cond.selects Cl y z).before a0 Z = true) (w4 : (Jvm.Cond.instanceMethod z).before a0 Z = true) (wz : (Jvm.Cond.initialized z.cls).before a0 Z = true) (wc : (Jvm.Cond.code z bytesY maxY retY).before a0 Z = true)
    (hy : y.cls ≠ "java/lang/invoke/MethodHandle" ∧ y.cls ≠ "java/lang/invoke/VarHandle") (ct : Ct [] l Z n0 z bytesY maxY retY rm (.ref a :: argsL).toArray h Qy) {S' : List Value} (hS : S' = argsL.reverse ++ .ref a :: S) (hlen : ∀ sig, parseMethodDescriptor y.desc = some sig → argsL.length = sig.parameters.length) (hL : L.size = maxL) (hf : rm.frames + 1 ≤ R.frames) {W : Nat} (hW : (S.map fun v => v.category).sum ≤ W) (hlo : W + (maxY + 11) + rm.locals ≤ R.locals) {cells' slots' : Nat} (hc1 : cells + rm.cells = cells') (hs1 : slots + rm.slots = slots') (hc : cells' ≤ R.cells) (hl : slots' ≤ R.slots) {wl : List Addr} (hKp : ∀ v h', Qy v h' → Keep h h' wl) (hSf : ∀ x ∈ wl, SfOk Z h mk sf x)
    (hd : decode bytes pc = .ok (.invokevirtual i, 3)) (hq : pc + 3 = q) (K : ∀ v h', Qy v h' → AtS p l e R s m args below meth c Z EL own n0 Q mk sf h' cells' slots' (mkF m q L (v.toList ++ S))) : AtS p l e R s m args below meth c Z EL own n0 Q mk sf h cells slots (mkF m pc L S') := by
  subst hq hc1 hs1
  intro T locs k n' vm0 k0 X hk hn' eT N hZ hown hS0 hk0 hC hB hF
  obtain ⟨cB, kB, q1, q2, q3⟩ := isOf (s := s.setVm vm0) hZ eT E
  obtain ⟨v, _, ⟨T', L', k', n''⟩, -, X', ⟨Lc, hQ, hl', hc', hs'⟩, st⟩ := X.virtualBack C.1 (y := y) (z := z) hown (mvT (s := s.setVm vm0) hZ w1) (mvT (s := s.setVm vm0) hZ w2) (hnf vm0 hZ) (mvT (s := s.setVm vm0) hZ w3) (mvT (s := s.setVm vm0) hZ w4) hy (backOf (s := s.setVm vm0) (W := W) (Q := fun v h L => Fr n0 L ∧ Qy v h) ct hZ wc wz hf hlo) q1 q3 (g := mkF m pc L S') rfl (hL.trans C.2.2.1.symm) (Steps.refl _) (argsL := argsL) (rest := S) hlen hS (by show 2 * 0 + _ ≤ _; omega) (hb C.2.1 hd) (fun _ _ => ⟨rfl, eT, (by show k + _ ≤ _; omega), (by show n' + _ ≤ _; omega)⟩)
  dsimp only [Pt.U, Pt.locs, Pt.cells, Pt.slots] at X' hl' hc' hs' st hQ
  subst hl' hc' hs'
  have hKp' := hKp v T'.heap hQ.2
  have hsafe : ∀ x ∈ wl, Safe Z EL vm0 h x := fun x hx => (hSf x hx).safe hZ.alike hB hF
  obtain ⟨H', hB'⟩ := hC.1.keepStep hKp' hsafe
  obtain ⟨t, o, r1, r⟩ := K v T'.heap hQ.2 T' _ _ _ vm0 k0 X' (by omega) (by omega) rfl (Fr.app N hQ.1) hZ hown hS0 (Nat.le_trans hk0 hKp'.1) (hC.trans (CHr.keep hKp' hsafe hC.1)) (fun y hy => hB y (hB' y hy)) (fun x hx => ⟨Nat.lt_of_lt_of_le (hF x hx).1 hKp'.1, (hF x hx).2.keep hKp' hsafe hC.1⟩)
  exact ⟨t, o, st.trans r1, r⟩
theorem s_callP1 (C : Cx p s m meth c Z own bytes maxL ret nm) {y : MethodName} {Cl : String} {i : Nat} {a : Addr} {argsL : List Value} {bytesY : ByteArray} {maxY : Nat} {retY : Option FieldType} {rm : Room} {Qy : Option Value → Heap → Prop} (E : Exa Z h a Cl) (w1 : (Jvm.Cond.methodLink own i y).before a0 Z = true) (w4 : (Jvm.Cond.instanceMethod y).before a0 Z = true) (hni : ∀ vm0, Z.Warmed39 vm0 → NI (s.setVm vm0) y.cls) (w5 : (Jvm.Cond.privateMethod y).before a0 Z = true) (wz : (Jvm.Cond.initialized y.cls).before a0 Z = true) (wc : (Jvm.Cond.code y bytesY maxY retY).before a0 Z = true)
    (hy : y.cls ≠ "java/lang/invoke/MethodHandle" ∧ y.cls ≠ "java/lang/invoke/VarHandle") (ct : Ct [] l Z n0 y bytesY maxY retY rm (.ref a :: argsL).toArray h Qy) {S' : List Value} (hS : S' = argsL.reverse ++ .ref a :: S) (hlen : ∀ sig, parseMethodDescriptor y.desc = some sig → argsL.length = sig.parameters.length) (hL : L.size = maxL) (hf : rm.frames + 1 ≤ R.frames) {W : Nat} (hW : (S.map fun v => v.category).sum ≤ W) (hlo : W + (maxY + 11) + rm.locals ≤ R.locals) {cells' slots' : Nat} (hc1 : cells + rm.cells = cells') (hs1 : slots + rm.slots = slots') (hc : cells' ≤ R.cells) (hl : slots' ≤ R.slots) {wl : List Addr} (hKp : ∀ v h', Qy v h' → Keep h h' wl) (hSf : ∀ x ∈ wl, SfOk Z h mk sf x)
    (hd : decode bytes pc = .ok (.invokevirtual i, 3)) (hq : pc + 3 = q) (K : ∀ v h', Qy v h' → AtS p l e R s m args below meth c Z EL own n0 Q mk sf h' cells' slots' (mkF m q L (v.toList ++ S))) : AtS p l e R s m args below meth c Z EL own n0 Q mk sf h cells slots (mkF m pc L S') := by
  subst hq hc1 hs1
  intro T locs k n' vm0 k0 X hk hn' eT N hZ hown hS0 hk0 hC hB hF
  obtain ⟨cq, q1, q2⟩ := E.cell
  obtain ⟨cN, kN, n1, n2, n3⟩ := hni vm0 hZ
  have hpv := Cond.privateMethod_at (mvP (s := s.setVm vm0) hZ w5 (args := #[]))
  obtain ⟨v, _, ⟨T', L', k', n''⟩, -, X', ⟨Lc, hQ, hl', hc', hs'⟩, st⟩ := X.privateBack C.1 (y := y) hown (mvT (s := s.setVm vm0) hZ w1) (mvT (s := s.setVm vm0) hZ w4) (selects_self_of_private n1 n2 n3 hpv (mvT (s := s.setVm vm0) hZ w4) hy) hpv (mvT (s := s.setVm vm0) hZ wc) hy (backOf (s := s.setVm vm0) (W := W) (Q := fun v h L => Fr n0 L ∧ Qy v h) ct hZ wc wz hf hlo) (g := mkF m pc L S') rfl (hL.trans C.2.2.1.symm) (Steps.refl _) (a := a) (by rw [eT]; exact q1) q2 (argsL := argsL) (rest := S) hlen hS (by show 2 * 0 + _ ≤ _; omega) (hb C.2.1 hd) (fun _ _ => ⟨rfl, eT, (by show k + _ ≤ _; omega), (by show n' + _ ≤ _; omega)⟩)
  dsimp only [Pt.U, Pt.locs, Pt.cells, Pt.slots] at X' hl' hc' hs' st hQ
  subst hl' hc' hs'
  have hKp' := hKp v T'.heap hQ.2
  have hsafe : ∀ x ∈ wl, Safe Z EL vm0 h x := fun x hx => (hSf x hx).safe hZ.alike hB hF
  obtain ⟨H', hB'⟩ := hC.1.keepStep hKp' hsafe
  obtain ⟨t, o, r1, r⟩ := K v T'.heap hQ.2 T' _ _ _ vm0 k0 X' (by omega) (by omega) rfl (Fr.app N hQ.1) hZ hown hS0 (Nat.le_trans hk0 hKp'.1) (hC.trans (CHr.keep hKp' hsafe hC.1)) (fun y hy => hB y (hB' y hy)) (fun x hx => ⟨Nat.lt_of_lt_of_le (hF x hx).1 hKp'.1, (hF x hx).2.keep hKp' hsafe hC.1⟩)
  exact ⟨t, o, st.trans r1, r⟩
theorem s_callS2 (C : Cx p s m meth c Z own bytes maxL ret nm) (hEL : EW Z a0 EL) {y : MethodName} {i : Nat} {argsL : List Value} {bytesY : ByteArray} {maxY : Nat} {retY : Option FieldType} {rm : Room} {Qy : Option Value → Heap → Prop} (w1 : (Jvm.Cond.methodLink own i y).before a0 Z = true) (w2 : (Jvm.Cond.static y).before a0 Z = true) (wz : (Jvm.Cond.initialized y.cls).before a0 Z = true) (wc : (Jvm.Cond.code y bytesY maxY retY).before a0 Z = true)
    (hy : y.cls ≠ "java/lang/invoke/MethodHandle" ∧ y.cls ≠ "java/lang/invoke/VarHandle") (ct : Cs [] l Z EL n0 y bytesY maxY retY rm argsL.toArray h Qy) {S' : List Value} (hS : S' = argsL.reverse ++ S) (hlen : ∀ sig, parseMethodDescriptor y.desc = some sig → argsL.length = sig.parameters.length) (hL : L.size = maxL) (hf : rm.frames + 1 ≤ R.frames) {W : Nat} (hW : (S.map fun v => v.category).sum ≤ W) (hlo : W + (maxY + 11) + rm.locals ≤ R.locals) {cells' slots' : Nat} (hc1 : cells + rm.cells = cells') (hs1 : slots + rm.slots = slots') (hc : cells' ≤ R.cells) (hl : slots' ≤ R.slots) 
    (hd : decode bytes pc = .ok (.invokestatic i, 3)) (hq : pc + 3 = q) (K : ∀ v h', Qy v h' → AtS p l e R s m args below meth c Z EL own n0 Q h'.size sf h' cells' slots' (mkF m q L (v.toList ++ S))) : AtS p l e R s m args below meth c Z EL own n0 Q mk sf h cells slots (mkF m pc L S') := by
  subst hq hc1 hs1
  intro T locs k n' vm0 k0 X hk hn' eT N hZ hown hS0 hk0 hC hB hF
  obtain ⟨v, _, ⟨T', L', k', n''⟩, -, X', hSn, hgr, ⟨Lc, hQ, hl', hc', hs', hCr⟩, st⟩ := callSS X C.1 (y := y) hown (mvT (s := s.setVm vm0) hZ w1) (mvT (s := s.setVm vm0) hZ w2) (mvT (s := s.setVm vm0) hZ wz) (mvT (s := s.setVm vm0) hZ wc) hy (backOfSH (W := W) (Q := fun v h L => Fr n0 L ∧ Qy v h) ct hZ wc wz hf hlo hEL hC.1) (g := mkF m pc L S') rfl (hL.trans C.2.2.1.symm) (argsL := argsL) (rest := S) hlen hS (by show 2 * 0 + _ ≤ _; omega) (hb C.2.1 hd) (fun _ _ => ⟨rfl, eT, (by show k + _ ≤ _; omega), (by show n' + _ ≤ _; omega)⟩)
  dsimp only [Pt.U, Pt.locs, Pt.cells, Pt.slots] at X' hSn hgr hl' hc' hs' st hQ hCr
  subst hl' hc' hs'
  rw [eT] at hgr
  obtain ⟨X2, hS2, hZ2, hown2⟩ := rebS hS0 hk0 X' hSn hgr (show Z.Warmed39 (s.setVm vm0).vm from hZ) hown
  obtain ⟨t, o, r1, r⟩ := K v T'.heap hQ.2 T' _ _ _ T'.vm T'.heap.size X2 (by omega) (by omega) rfl (Fr.app N hQ.1) hZ2 hown2 hS2 (Nat.le_refl _) (hC.trans hCr) (fun y hy => bk_lt hy) (fun x hx => ⟨Nat.lt_of_lt_of_le (hF x hx).1 hgr, hCr.safe (hF x hx).1 (hF x hx).2⟩)
  exact ⟨t, o, st.trans r1, r⟩
theorem s_callI2 (C : Cx p s m meth c Z own bytes maxL ret nm) (hEL : EW Z a0 EL) {y : MethodName} {i : Nat} {a : Addr} {argsL : List Value} {bytesY : ByteArray} {maxY : Nat} {rm : Room} {Qy : Option Value → Heap → Prop} (hnm : y.name = "<init>") (w1 : (Jvm.Cond.methodLink own i y).before a0 Z = true) (w2 : (Jvm.Cond.instanceMethod y).before a0 Z = true) (wz : (Jvm.Cond.initialized y.cls).before a0 Z = true) (wc : (Jvm.Cond.code y bytesY maxY none).before a0 Z = true)
    (hy : y.cls ≠ "java/lang/invoke/MethodHandle" ∧ y.cls ≠ "java/lang/invoke/VarHandle") (ct : Cs [] l Z EL n0 y bytesY maxY none rm (.ref a :: argsL).toArray h Qy) {S' : List Value} (hS : S' = argsL.reverse ++ .ref a :: S) (hlen : ∀ sig, parseMethodDescriptor y.desc = some sig → argsL.length = sig.parameters.length) (hL : L.size = maxL) (hf : rm.frames + 1 ≤ R.frames) {W : Nat} (hW : (S.map fun v => v.category).sum ≤ W) (hlo : W + (maxY + 11) + rm.locals ≤ R.locals) {cells' slots' : Nat} (hc1 : cells + rm.cells = cells') (hs1 : slots + rm.slots = slots') (hc : cells' ≤ R.cells) (hl : slots' ≤ R.slots) 
    (hd : decode bytes pc = .ok (.invokespecial i, 3)) (hq : pc + 3 = q) (K : ∀ v h', Qy v h' → AtS p l e R s m args below meth c Z EL own n0 Q h'.size sf h' cells' slots' (mkF m q L (v.toList ++ S))) : AtS p l e R s m args below meth c Z EL own n0 Q mk sf h cells slots (mkF m pc L S') := by
  subst hq hc1 hs1
  intro T locs k n' vm0 k0 X hk hn' eT N hZ hown hS0 hk0 hC hB hF
  obtain ⟨v, _, ⟨T', L', k', n''⟩, -, X', hSn, hgr, ⟨Lc, hQ, hl', hc', hs', hCr⟩, st⟩ := X.specialBackS C.1 (y := y) hnm hown (mvT (s := s.setVm vm0) hZ w1) (mvT (s := s.setVm vm0) hZ w2) (mvT (s := s.setVm vm0) hZ wc) hy (backOfSH (W := W) (Q := fun v h L => Fr n0 L ∧ Qy v h) ct hZ wc wz hf hlo hEL hC.1) (g := mkF m pc L S') rfl (hL.trans C.2.2.1.symm) (Steps.refl _) (a := a) (argsL := argsL) (rest := S) hlen hS (by show 2 * 0 + _ ≤ _; omega) (hb C.2.1 hd) (fun _ _ => ⟨rfl, eT, (by show k + _ ≤ _; omega), (by show n' + _ ≤ _; omega)⟩)
  dsimp only [Pt.U, Pt.locs, Pt.cells, Pt.slots] at X' hSn hgr hl' hc' hs' st hQ hCr
  subst hl' hc' hs'
  rw [eT] at hgr
  obtain ⟨X2, hS2, hZ2, hown2⟩ := rebS hS0 hk0 X' hSn hgr (show Z.Warmed39 (s.setVm vm0).vm from hZ) hown
  obtain ⟨t, o, r1, r⟩ := K v T'.heap hQ.2 T' _ _ _ T'.vm T'.heap.size X2 (by omega) (by omega) rfl (Fr.app N hQ.1) hZ2 hown2 hS2 (Nat.le_refl _) (hC.trans hCr) (fun y hy => bk_lt hy) (fun x hx => ⟨Nat.lt_of_lt_of_le (hF x hx).1 hgr, hCr.safe (hF x hx).1 (hF x hx).2⟩)
  exact ⟨t, o, st.trans r1, r⟩
theorem s_callV2 (C : Cx p s m meth c Z own bytes maxL ret nm) (hEL : EW Z a0 EL) {y z : MethodName} {Cl : String} {i : Nat} {a : Addr} {argsL : List Value} {bytesY : ByteArray} {maxY : Nat} {retY : Option FieldType} {rm : Room} {Qy : Option Value → Heap → Prop} (E : Exa Z h a Cl) (w1 : (Jvm.Cond.methodLink own i y).before a0 Z = true) (w2 : (Jvm.Cond.declares y).before a0 Z = true) (hnf : ∀ vm0, Z.Warmed39 vm0 → NotFace (s.setVm vm0) y) (w3 : (Jvm.Cond.selects Cl y z).before a0 Z = true) (w4 : (Jvm.Cond.instanceMethod z).before a0 Z = true) (wz : (Jvm.Cond.initialized z.cls).before a0 Z = true) (wc : (Jvm.Cond.code z bytesY maxY retY).before a0 Z = true)
    (hy : y.cls ≠ "java/lang/invoke/MethodHandle" ∧ y.cls ≠ "java/lang/invoke/VarHandle") (ct : Cs [] l Z EL n0 z bytesY maxY retY rm (.ref a :: argsL).toArray h Qy) {S' : List Value} (hS : S' = argsL.reverse ++ .ref a :: S) (hlen : ∀ sig, parseMethodDescriptor y.desc = some sig → argsL.length = sig.parameters.length) (hL : L.size = maxL) (hf : rm.frames + 1 ≤ R.frames) {W : Nat} (hW : (S.map fun v => v.category).sum ≤ W) (hlo : W + (maxY + 11) + rm.locals ≤ R.locals) {cells' slots' : Nat} (hc1 : cells + rm.cells = cells') (hs1 : slots + rm.slots = slots') (hc : cells' ≤ R.cells) (hl : slots' ≤ R.slots) 
    (hd : decode bytes pc = .ok (.invokevirtual i, 3)) (hq : pc + 3 = q) (K : ∀ v h', Qy v h' → AtS p l e R s m args below meth c Z EL own n0 Q h'.size sf h' cells' slots' (mkF m q L (v.toList ++ S))) : AtS p l e R s m args below meth c Z EL own n0 Q mk sf h cells slots (mkF m pc L S') := by
  subst hq hc1 hs1
  intro T locs k n' vm0 k0 X hk hn' eT N hZ hown hS0 hk0 hC hB hF
  obtain ⟨cB, kB, q1, q2, q3⟩ := isOf (s := s.setVm vm0) hZ eT E
  obtain ⟨v, _, ⟨T', L', k', n''⟩, -, X', hSn, hgr, ⟨Lc, hQ, hl', hc', hs', hCr⟩, st⟩ := X.virtualBackS C.1 (y := y) (z := z) hown (mvT (s := s.setVm vm0) hZ w1) (mvT (s := s.setVm vm0) hZ w2) (hnf vm0 hZ) (mvT (s := s.setVm vm0) hZ w3) (mvT (s := s.setVm vm0) hZ w4) hy (backOfSH (W := W) (Q := fun v h L => Fr n0 L ∧ Qy v h) ct hZ wc wz hf hlo hEL hC.1) q1 q3 (g := mkF m pc L S') rfl (hL.trans C.2.2.1.symm) (Steps.refl _) (argsL := argsL) (rest := S) hlen hS (by show 2 * 0 + _ ≤ _; omega) (hb C.2.1 hd) (fun _ _ => ⟨rfl, eT, (by show k + _ ≤ _; omega), (by show n' + _ ≤ _; omega)⟩)
  dsimp only [Pt.U, Pt.locs, Pt.cells, Pt.slots] at X' hSn hgr hl' hc' hs' st hQ hCr
  subst hl' hc' hs'
  rw [eT] at hgr
  obtain ⟨X2, hS2, hZ2, hown2⟩ := rebS hS0 hk0 X' hSn hgr (show Z.Warmed39 (s.setVm vm0).vm from hZ) hown
  obtain ⟨t, o, r1, r⟩ := K v T'.heap hQ.2 T' _ _ _ T'.vm T'.heap.size X2 (by omega) (by omega) rfl (Fr.app N hQ.1) hZ2 hown2 hS2 (Nat.le_refl _) (hC.trans hCr) (fun y hy => bk_lt hy) (fun x hx => ⟨Nat.lt_of_lt_of_le (hF x hx).1 hgr, hCr.safe (hF x hx).1 (hF x hx).2⟩)
  exact ⟨t, o, st.trans r1, r⟩
theorem s_callP2 (C : Cx p s m meth c Z own bytes maxL ret nm) (hEL : EW Z a0 EL) {y : MethodName} {Cl : String} {i : Nat} {a : Addr} {argsL : List Value} {bytesY : ByteArray} {maxY : Nat} {retY : Option FieldType} {rm : Room} {Qy : Option Value → Heap → Prop} (E : Exa Z h a Cl) (w1 : (Jvm.Cond.methodLink own i y).before a0 Z = true) (w4 : (Jvm.Cond.instanceMethod y).before a0 Z = true) (hni : ∀ vm0, Z.Warmed39 vm0 → NI (s.setVm vm0) y.cls) (w5 : (Jvm.Cond.privateMethod y).before a0 Z = true) (wz : (Jvm.Cond.initialized y.cls).before a0 Z = true) (wc : (Jvm.Cond.code y bytesY maxY retY).before a0 Z = true)
    (hy : y.cls ≠ "java/lang/invoke/MethodHandle" ∧ y.cls ≠ "java/lang/invoke/VarHandle") (ct : Cs [] l Z EL n0 y bytesY maxY retY rm (.ref a :: argsL).toArray h Qy) {S' : List Value} (hS : S' = argsL.reverse ++ .ref a :: S) (hlen : ∀ sig, parseMethodDescriptor y.desc = some sig → argsL.length = sig.parameters.length) (hL : L.size = maxL) (hf : rm.frames + 1 ≤ R.frames) {W : Nat} (hW : (S.map fun v => v.category).sum ≤ W) (hlo : W + (maxY + 11) + rm.locals ≤ R.locals) {cells' slots' : Nat} (hc1 : cells + rm.cells = cells') (hs1 : slots + rm.slots = slots') (hc : cells' ≤ R.cells) (hl : slots' ≤ R.slots) 
    (hd : decode bytes pc = .ok (.invokevirtual i, 3)) (hq : pc + 3 = q) (K : ∀ v h', Qy v h' → AtS p l e R s m args below meth c Z EL own n0 Q h'.size sf h' cells' slots' (mkF m q L (v.toList ++ S))) : AtS p l e R s m args below meth c Z EL own n0 Q mk sf h cells slots (mkF m pc L S') := by
  subst hq hc1 hs1
  intro T locs k n' vm0 k0 X hk hn' eT N hZ hown hS0 hk0 hC hB hF
  obtain ⟨cq, q1, q2⟩ := E.cell
  obtain ⟨cN, kN, n1, n2, n3⟩ := hni vm0 hZ
  have hpv := Cond.privateMethod_at (mvP (s := s.setVm vm0) hZ w5 (args := #[]))
  obtain ⟨v, _, ⟨T', L', k', n''⟩, -, X', hSn, hgr, ⟨Lc, hQ, hl', hc', hs', hCr⟩, st⟩ := X.privateBackS C.1 (y := y) hown (mvT (s := s.setVm vm0) hZ w1) (mvT (s := s.setVm vm0) hZ w4) (selects_self_of_private n1 n2 n3 hpv (mvT (s := s.setVm vm0) hZ w4) hy) hpv (mvT (s := s.setVm vm0) hZ wc) hy (backOfSH (W := W) (Q := fun v h L => Fr n0 L ∧ Qy v h) ct hZ wc wz hf hlo hEL hC.1) (g := mkF m pc L S') rfl (hL.trans C.2.2.1.symm) (Steps.refl _) (a := a) (by rw [eT]; exact q1) q2 (argsL := argsL) (rest := S) hlen hS (by show 2 * 0 + _ ≤ _; omega) (hb C.2.1 hd) (fun _ _ => ⟨rfl, eT, (by show k + _ ≤ _; omega), (by show n' + _ ≤ _; omega)⟩)
  dsimp only [Pt.U, Pt.locs, Pt.cells, Pt.slots] at X' hSn hgr hl' hc' hs' st hQ hCr
  subst hl' hc' hs'
  rw [eT] at hgr
  obtain ⟨X2, hS2, hZ2, hown2⟩ := rebS hS0 hk0 X' hSn hgr (show Z.Warmed39 (s.setVm vm0).vm from hZ) hown
  obtain ⟨t, o, r1, r⟩ := K v T'.heap hQ.2 T' _ _ _ T'.vm T'.heap.size X2 (by omega) (by omega) rfl (Fr.app N hQ.1) hZ2 hown2 hS2 (Nat.le_refl _) (hC.trans hCr) (fun y hy => bk_lt hy) (fun x hx => ⟨Nat.lt_of_lt_of_le (hF x hx).1 hgr, hCr.safe (hF x hx).1 (hF x hx).2⟩)
  exact ⟨t, o, st.trans r1, r⟩
theorem s_nf {y : MethodName} {Cl : String} (w3 : (Jvm.Cond.selects Cl y y).before a0 Z = true) : ∀ vm0, Z.Warmed39 vm0 → NotFace (s.setVm vm0) y := fun vm0 hZ => notFace_of_selects (args := #[]) (mvT (s := s.setVm vm0) hZ w3)
theorem s_nfs {y : MethodName} {Cl : String} (w3 : (Jvm.Cond.superclass y.cls Cl).before a0 Z = true) : ∀ vm0, Z.Warmed39 vm0 → NotFace (s.setVm vm0) y := fun vm0 hZ => nf_super (args := #[]) (mvT (s := s.setVm vm0) hZ w3)
/-- ldc of a String constant: what it spells -/
theorem s_ldc (C : Cx p s m meth c Z own bytes maxL ret nm) (hEL : EW Z a0 EL) (wS : ∀ a ∈ Bundle.stringAtoms, a.before a0 Z = true) {text : String} {i : Nat} (w : (Jvm.Cond.stringLink own i text).before a0 Z = true) (hmem : (own, i) ∈ EL) {vs : List Value} (ht : (∀ c ∈ text.toList, c.toNat < 256) ∧ text.toList.map (fun c => Value.int (Jvm.Lit.byteI c.toNat.toUInt16)) = vs) (hvl : vs.length < 2 ^ 31)
    {n : Nat} (hn1 : 4 * text.toList.length ≤ n) (hbig : n ≤ 536870912) {cells' slots' : Nat} (hc1 : cells + 2 = cells') (hs1 : slots + (n + 4) = slots') (hc : cells' ≤ R.cells) (hl : slots' ≤ R.slots)
    (hd : decode bytes pc = .ok (.ldc i, 2)) (hq : pc + 2 = q) (K : ∀ h' a b, Ext h h' → Exa Z h' a "java/lang/String" → Fld Z h' a "java/lang/String" "coder" "B" (.int 0) → Fld Z h' a "java/lang/String" "value" "[B" (.ref b) → Ar Z h' b .byte vs → (∀ x ∈ sf, x ≠ a ∧ x ≠ b) → AtS p l e R s m args below meth c Z EL own n0 Q h'.size sf h' cells' slots' (mkF m q L (.ref a :: S))) : AtS p l e R s m args below meth c Z EL own n0 Q mk sf h cells slots (mkF m pc L S) := by
  subst hq hc1 hs1
  intro T locs k n' vm0 k0 X hk hn' eT N hZ hown hS0 hk0 hC hB hF
  obtain ⟨a, T', h', k1, b, kc, X', e', E, hS1, hk1, hZ1, hown1, f1, f2, f3, f4, -, -, hCr, -, hne, st⟩ := ldcCH X C.1 hZ hown w wS eT hS0 hk0 hEL hmem hC.1 ht (ofNat_neg hvl) (ofNat_nat hvl) (g := mkF m pc L S) rfl (hb C.2.1 hd) hn1 hbig (by omega) (by omega)
  have hsf : ∀ x ∈ sf, x < h'.size ∧ Safe Z EL T'.vm h' x := fun x hx => ⟨Nat.lt_of_lt_of_le (hF x hx).1 E.1, hCr.safe (hF x hx).1 (hF x hx).2⟩
  obtain ⟨t, o, r1, r⟩ := K h' a b E f1 f2 f3 ⟨hvl, kc, f4⟩ (fun x hx => hne x (hsf x hx).2) T' _ _ _ T'.vm k1 X' (by omega) (by omega) e' N hZ1 hown1 hS1 hk1 (hC.trans hCr) (fun y hy => bk_lt hy) hsf
  exact ⟨t, o, st _ r1, r⟩
/-- ldc of a String constant of which nothing is said -/
theorem s_ldcO (C : Cx p s m meth c Z own bytes maxL ret nm) (hEL : EW Z a0 EL) (wS : ∀ a ∈ Bundle.stringAtoms, a.before a0 Z = true) {text : String} {i : Nat} (w : (Jvm.Cond.stringLink own i text).before a0 Z = true)
    {n : Nat} (hn1 : 4 * text.toList.length ≤ n) (hbig : n ≤ 536870912) {cells' slots' : Nat} (hc1 : cells + 2 = cells') (hs1 : slots + (n + 4) = slots') (hc : cells' ≤ R.cells) (hl : slots' ≤ R.slots)
    (hd : decode bytes pc = .ok (.ldc i, 2)) (hq : pc + 2 = q) (K : ∀ h' a, Ext h h' → AtS p l e R s m args below meth c Z EL own n0 Q h'.size sf h' cells' slots' (mkF m q L (.ref a :: S))) : AtS p l e R s m args below meth c Z EL own n0 Q mk sf h cells slots (mkF m pc L S) := by
  subst hq hc1 hs1
  intro T locs k n' vm0 k0 X hk hn' eT N hZ hown hS0 hk0 hC hB hF
  obtain ⟨a, T', h', k1, X', e', E, hS1, hk1, hZ1, hown1, hCr, -, st⟩ := ldcOH X C.1 hZ hown w wS eT hS0 hk0 hEL hC.1 (g := mkF m pc L S) rfl (hb C.2.1 hd) hn1 hbig (by omega) (by omega)
  have hsf : ∀ x ∈ sf, x < h'.size ∧ Safe Z EL T'.vm h' x := fun x hx => ⟨Nat.lt_of_lt_of_le (hF x hx).1 E.1, hCr.safe (hF x hx).1 (hF x hx).2⟩
  obtain ⟨t, o, r1, r⟩ := K h' a E T' _ _ _ T'.vm k1 X' (by omega) (by omega) e' N hZ1 hown1 hS1 hk1 (hC.trans hCr) (fun y hy => bk_lt hy) hsf
  exact ⟨t, o, st _ r1, r⟩
end WkS
-- CUT
def own_A : List Int32 := [1207963663, 1207963663, 1207963663, 1207963663, 1207963663, 1207963663, 1207963663, 1207963663, 1207963663, 1476411407, 1342193679, 1476411407, 1610629135, 1342193679, 1207963663, 1207963663, 1207963663, 1207963663, 1207963663, 1207963663, 1207963663, 1207963663, 1207963663, 1207963663, 1207963663, 1207963663, 1207963663, 1207963663, 1342193679, 1342193679, 1342193679, 1476411407, 1610629132, 1744830488, 1744830488, 671088664, 671113242, 671088664, 1744830488, 1744830488, -402653163, -402653162, 1744830488, 536870937, 939524120, 536870932, 939524120, 939524120, 402667017, 402667017, 402667017, 402667017, 402667017, 402667017, 402667017, 402667017, 402667017, 402667017, 939524120, 1744830488, -402653159, 1744830489, -402653159, 1744830488, 1744830488, 8552417, 8552417, 8552417, 8552417, 8552417, 8552417, 8552417, 8552417, 8552417, 8552417, 8552417, 8552417, 8552417, 8552417, 8552417, 8552417, 8552417, 8552417, 8552417, 8552417, 8552417, 8552417, 8552417, 8552417, 8552417, 8552417, -402653163, 1744830488, -402653162, 1744830491, 1744850967, 1744830491, 8486882, 8486882, 8486882, 8486882, 8486882, 8486882, 8486882, 8486882, 8486882, 8486882, 8486882, 8486882, 8486882, 8486882, 8486882, 8486882, 8486882, 8486882, 8486882, 8486882, 8486882, 8486882, 8486882, 8486882, 8486882, 8486882, -402653163, 1744830489, -402653162, 1744830489, 1207963663, 1207963663, 1207963663, 1207963663, 1207963663, 1207963663, 1342181391, 1207963663, 1207963663, 1207963663, 1207963663, 1207963663, 1207963663, 1207963663, 1207963663, 1207963663, 1207963663, 1207963663, 1207963663, 1207963663, 1207963663, 1207963663, 1207963663, 1207963663, 1207963663, 1207963663, 1207963663, 1207963663, 1207963663, 1207963663, 1207963663, 1207963663, 1207963663, 939524108, 1744830488, 671113242, 671113242, 671113242, 671113242, 1744830492, 1744830488, 1744830491, 1744830492, 28677, -402653155, 1744830489, 1207963664, 1744830492, 1744830491, 671088668, 671088665, 402654731, 402654731, 1744830491, 134049794, 1744830488, 1744830488, 1744830491, 402654475, 28677, -402653154, 1744832523, 1744832523, 1744832523, 1744830488, 8548353, 8548353, 8548353, 8548353, 8548353, 8548353, 8548353, 8548353, 8548353, 8548353, 8548353, 8548353, 8548353, 8548353, 8548353, 8548353, 8548353, 8548353, 8548353, 8548353, 8548353, 8548353, 8548353, 1744830489, 8548353, 8548353, 8548353, 8548353, 8548353, 8548353, 8548353, 134049794, 8482818, 8482818, 8482818, 8482818, 8482818, 8482818, 8482818, 8482818, 8482818, 8482818, 8482818, 8482818, 8482818, 8482818, 8482818, 8482818, 8482818, 8482818, 8482818, 8482818, 8482818, 8482818, 8482818, 1744830489, 8482818, 8482818, 8482818, 8482818, 8482818, 8482818, 8482818, 102592514]
def own_isws (c : Int32) : Bool := decide (c = 32) || (!decide (c < 9) && !decide (13 < c)) || (!decide (c < 28) && !decide (31 < c))
theorem own_wsA : ∀ k : Fin 256, decide ((own_A.getD k.val 0) &&& 28672 = 16384) = own_isws (Int32.ofNat k.val) := by decide +kernel
theorem own_A_len : own_A.length = 256 := by decide +kernel

def Gl (Z : State) (a0 : Array Value) (n0 : Nat) : Prop := (∀ d ∈ tables_1, d.before a0 Z = true) ∧ (∃ z : Int32, Sta Z Z.heap "java/lang/String" "COMPACT_STRINGS" "Z" (.int z) ∧ ¬ z = 0) ∧ EW Z a0 ([] : List (String × Nat)) ∧ (∃ x : Addr, Sta Z Z.heap "java/lang/CharacterDataLatin1" "instance" "Ljava/lang/CharacterDataLatin1;" (.ref x) ∧ Exa Z Z.heap x "java/lang/CharacterDataLatin1") ∧ (∃ x : Addr, Sta Z Z.heap "java/lang/CharacterDataLatin1" "A" "[I" (.ref x) ∧ Ar Z Z.heap x .int (own_A.map Value.int)) ∧ (∃ x : Addr, Sta Z Z.heap "java/util/OptionalLong" "EMPTY" "Ljava/util/OptionalLong;" (.ref x) ∧ Exa Z Z.heap x "java/util/OptionalLong" ∧ Fld Z Z.heap x "java/util/OptionalLong" "isPresent" "Z" (.int (0 : Int32))) ∧ True
theorem Gl.cs {Z : State} {a0 : Array Value} {n0 : Nat} (G : Gl Z a0 n0) : ∃ z : Int32, Sta Z Z.heap "java/lang/String" "COMPACT_STRINGS" "Z" (.int z) ∧ ¬ z = 0 := G.2.1
theorem Gl.el {Z : State} {a0 : Array Value} {n0 : Nat} (G : Gl Z a0 n0) : EW Z a0 ([] : List (String × Nat)) := G.2.2.1
theorem Gl.ci {Z : State} {a0 : Array Value} {n0 : Nat} (G : Gl Z a0 n0) : ∃ x : Addr, Sta Z Z.heap "java/lang/CharacterDataLatin1" "instance" "Ljava/lang/CharacterDataLatin1;" (.ref x) ∧ Exa Z Z.heap x "java/lang/CharacterDataLatin1" := G.2.2.2.1
theorem Gl.ca {Z : State} {a0 : Array Value} {n0 : Nat} (G : Gl Z a0 n0) : ∃ x : Addr, Sta Z Z.heap "java/lang/CharacterDataLatin1" "A" "[I" (.ref x) ∧ Ar Z Z.heap x .int (own_A.map Value.int) := G.2.2.2.2.1
theorem Gl.oe {Z : State} {a0 : Array Value} {n0 : Nat} (G : Gl Z a0 n0) : ∃ x : Addr, Sta Z Z.heap "java/util/OptionalLong" "EMPTY" "Ljava/util/OptionalLong;" (.ref x) ∧ Exa Z Z.heap x "java/util/OptionalLong" ∧ Fld Z Z.heap x "java/util/OptionalLong" "isPresent" "Z" (.int (0 : Int32)) := G.2.2.2.2.2.1
theorem own_sa : ∀ d ∈ Bundle.stringAtoms, d ∈ tables_1 := by decide +kernel
theorem Gl.sa {Z : State} {a0 : Array Value} {n0 : Nat} (G : Gl Z a0 n0) : ∀ d ∈ Bundle.stringAtoms, d.before a0 Z = true := fun d hd => G.1 d (own_sa d hd)
theorem pd_1 : parseMethodDescriptor "(C)Z" = some ⟨[.char], some .boolean⟩ := by decide +kernel
theorem pd_2 : parseMethodDescriptor "([C)V" = some ⟨[(.array .char)], none⟩ := by decide +kernel
theorem pd_3 : parseMethodDescriptor "([CIILjava/lang/Void;)V" = some ⟨[(.array .char), .int, .int, (.object "java/lang/Void")], none⟩ := by decide +kernel
theorem pd_4 : parseMethodDescriptor "()V" = some ⟨[], none⟩ := by decide +kernel
theorem pd_5 : parseMethodDescriptor "([CII)[B" = some ⟨[(.array .char), .int, .int], some (.array .byte)⟩ := by decide +kernel
theorem pd_6 : parseMethodDescriptor "([CI[BII)I" = some ⟨[(.array .char), .int, (.array .byte), .int, .int], some .int⟩ := by decide +kernel
theorem pd_7 : parseMethodDescriptor "([BI)B" = some ⟨[(.array .byte), .int], some .byte⟩ := by decide +kernel
theorem pd_8 : parseMethodDescriptor "(Ljava/lang/String;)Lcom/example/libhilo/libhilo/StoredSequence;" = some ⟨[(.object "java/lang/String")], some (.object "com/example/libhilo/libhilo/StoredSequence")⟩ := by decide +kernel
theorem pd_9 : parseMethodDescriptor "(Ljava/lang/String;)Lcom/example/libhilo/libhilo/SequenceSpec;" = some ⟨[(.object "java/lang/String")], some (.object "com/example/libhilo/libhilo/SequenceSpec")⟩ := by decide +kernel
theorem pd_10 : parseMethodDescriptor "(Ljava/lang/String;)V" = some ⟨[(.object "java/lang/String")], none⟩ := by decide +kernel
theorem pd_11 : parseMethodDescriptor "(Ljava/lang/Object;Ljava/lang/String;)Ljava/lang/Object;" = some ⟨[(.object "java/lang/Object"), (.object "java/lang/String")], some (.object "java/lang/Object")⟩ := by decide +kernel
theorem pd_12 : parseMethodDescriptor "()Z" = some ⟨[], some .boolean⟩ := by decide +kernel
theorem pd_13 : parseMethodDescriptor "()I" = some ⟨[], some .int⟩ := by decide +kernel
theorem pd_14 : parseMethodDescriptor "([B)I" = some ⟨[(.array .byte)], some .int⟩ := by decide +kernel
theorem pd_15 : parseMethodDescriptor "([BI)C" = some ⟨[(.array .byte), .int], some .char⟩ := by decide +kernel
theorem pd_16 : parseMethodDescriptor "(I)Z" = some ⟨[.int], some .boolean⟩ := by decide +kernel
theorem pd_17 : parseMethodDescriptor "(I)I" = some ⟨[.int], some .int⟩ := by decide +kernel
theorem pd_18 : parseMethodDescriptor "()B" = some ⟨[], some .byte⟩ := by decide +kernel
theorem pd_19 : parseMethodDescriptor "(Ljava/lang/String;JLjava/lang/Long;Ljava/lang/Long;Ljava/lang/Long;)V" = some ⟨[(.object "java/lang/String"), .long, (.object "java/lang/Long"), (.object "java/lang/Long"), (.object "java/lang/Long")], none⟩ := by decide +kernel
theorem pd_20 : parseMethodDescriptor "()Ljava/util/OptionalLong;" = some ⟨[], some (.object "java/util/OptionalLong")⟩ := by decide +kernel
theorem pd_21 : parseMethodDescriptor "(Lcom/example/libhilo/libhilo/SequenceSpec;Ljava/util/OptionalLong;)V" = some ⟨[(.object "com/example/libhilo/libhilo/SequenceSpec"), (.object "java/util/OptionalLong")], none⟩ := by decide +kernel
theorem pd_22 : parseMethodDescriptor "()Lcom/example/libhilo/libhilo/SequenceSpec;" = some ⟨[], some (.object "com/example/libhilo/libhilo/SequenceSpec")⟩ := by decide +kernel
theorem pd_23 : parseMethodDescriptor "()Ljava/lang/String;" = some ⟨[], some (.object "java/lang/String")⟩ := by decide +kernel
theorem pd_24 : parseMethodDescriptor "(Ljava/lang/Object;)Z" = some ⟨[(.object "java/lang/Object")], some .boolean⟩ := by decide +kernel
theorem pd_25 : parseMethodDescriptor "()J" = some ⟨[], some .long⟩ := by decide +kernel
theorem pd_26 : parseMethodDescriptor "(Ljava/lang/Long;JJ)J" = some ⟨[(.object "java/lang/Long"), .long, .long], some .long⟩ := by decide +kernel
def own_tA : Jvm.Term := (Jvm.Term.static "java/lang/CharacterDataLatin1" "A" "[I")
set_option maxRecDepth 1000000 in
theorem own_setsA : (jdkStatics_1.drop 17).take 256 = (List.range 256).map (fun i => Jvm.Cond.eq (Jvm.Term.elem own_tA (Jvm.Term.int (Int32.ofNat i))) (Jvm.Term.int (own_A.getD i 0))) := by rfl
theorem own_tabA {s : State} {args : Array Value} (hfit : Fit s) {x : Addr} {c : Cell} (e : own_tA.eval args s none [] s = some (.ref x)) (A : Arr s s.heap x c .int) (hl : (Jvm.Cond.eq (Jvm.Term.length own_tA) (Jvm.Term.int (256 : Int32))).value args s none s [] = some true) (hs : ∀ w ∈ jdkStatics_1, w.before args s = true) : Ar s s.heap x .int (own_A.map Value.int) := by
  have hlen := Cond.eq_int (Cond.before_iff.mpr hl) rfl
  have hat := Arr.fin (Vm.Alike.refl _) A
  have h31 := SBG.length_lt e hat hlen
  have hsz : c.slots.size = 256 := by
    have e2 := len_f e hat h31
    have e3 : c.slots.size.toInt32 = (256 : Int32) := by simpa using Option.some.inj (e2.symm.trans hlen)
    have := congrArg Int32.toInt e3
    rw [len_toInt h31] at this
    have e4 : (256 : Int32).toInt = 256 := rfl
    omega
  have hget : ∀ i, i < 256 → c.slots[i]? = some (.int (own_A.getD i 0)) := fun i hi => by
    have hm : Jvm.Cond.eq (Jvm.Term.elem own_tA (Jvm.Term.int (Int32.ofNat i))) (Jvm.Term.int (own_A.getD i 0)) ∈ jdkStatics_1 := by
      refine List.mem_of_mem_drop (i := 17) (List.mem_of_mem_take (i := 256) ?_)
      rw [own_setsA]
      exact List.mem_map.mpr ⟨i, List.mem_range.mpr hi, rfl⟩
    have e1 := Cond.eq_int (hs _ hm) rfl
    have e2 := elem_in e1 e (Term.int_eval _) A.1
    rw [ofNat_nat (by omega)] at e2
    exact e2.2
  refine ⟨by rw [List.length_map, own_A_len]; decide, c.cls, c, A, rfl, ?_, ?_, ?_, ?_⟩
  · rw [List.length_map, own_A_len, hsz]; rfl
  · rw [List.length_map, own_A_len]; decide
  · intro k hk
    rw [hsz] at hk
    rw [hget k hk]
    simp [List.getD, own_A_len, hk]
  · intro k hk
    rw [hsz] at hk
    simp [List.getD, own_A_len, hk, fits]

theorem d11_0 : decode jdk_31_method_11_code 0 = .ok (.aload_n 0, 1) := by decide +kernel
theorem d11_1 : decode jdk_31_method_11_code 1 = .ok (.ifnonnull 12, 3) := by decide +kernel
theorem d11_4 : decode jdk_31_method_11_code 4 = .ok (.new 84, 3) := by decide +kernel
theorem d11_7 : decode jdk_31_method_11_code 7 = .ok (.dup, 1) := by decide +kernel
theorem d11_8 : decode jdk_31_method_11_code 8 = .ok (.aload_n 1, 1) := by decide +kernel
theorem d11_9 : decode jdk_31_method_11_code 9 = .ok (.invokespecial 87, 3) := by decide +kernel
theorem d11_12 : decode jdk_31_method_11_code 12 = .ok (.athrow, 1) := by decide +kernel
theorem d11_13 : decode jdk_31_method_11_code 13 = .ok (.aload_n 0, 1) := by decide +kernel
theorem d11_14 : decode jdk_31_method_11_code 14 = .ok (.areturn, 1) := by decide +kernel
theorem pf11 : plainFor (⟨"java/util/Objects", "requireNonNull", "(Ljava/lang/Object;Ljava/lang/String;)Ljava/lang/Object;"⟩ : MethodName) = true := by first | exact plainFor_of_name (by first | (simp [plainName, overriddenIn]; done) | decide +kernel) | decide +kernel
theorem ef_reqNN (m : MethodId) (z0 : Addr) (z1 : Addr) : entryFrame m #[(.ref z0), (.ref z1)] 2 = mkF m 0 #[.val (.ref z0), .val (.ref z1)] [] := by first | rfl | (simp [entryFrame, mkF, argsToLocals, Value.category, *]; done) | rfl
set_option maxRecDepth 65536 in
set_option maxHeartbeats 40000000 in
theorem rm_reqNN {l : Launch} {Z : State} {a0 : Array Value} {n0 : Nat} (G : Gl Z a0 n0) {h0 : Heap} (O : Old Z n0 h0) (a : Addr) (b : Addr) :
    Ct [] l Z n0 (⟨"java/util/Objects", "requireNonNull", "(Ljava/lang/Object;Ljava/lang/String;)Ljava/lang/Object;"⟩ : MethodName) jdk_31_method_11_code 2 (some (.object "java/lang/Object")) ({ frames := 0, cells := 0, slots := 0, locals := 0 } : Room) #[(.ref a), (.ref b)] h0 (fun v h => h = h0 ∧ v = some (.ref a)) := by
  refine Ct.intro pf11 ?_
  intro p e s m below meth c C
  refine AtW.cast ?_ (ef_reqNN m a b)
  refine w_aloadN (q := 1) C rfl rfl d11_0 rfl ?_
  refine w_ifnonnull_t (q := 13) C d11_1 (by decide) (by decide) ?_
  refine w_aloadN (q := 14) C rfl rfl d11_13 rfl ?_
  exact w_retA C rfl rfl rfl d11_14 (by decide) (by decide) ⟨rfl, rfl⟩
theorem d14_0 : decode jdk_42_method_154_code 0 = .ok (.getstatic 38, 3) := by decide +kernel
theorem d14_3 : decode jdk_42_method_154_code 3 = .ok (.ifCond .eq 14, 3) := by decide +kernel
theorem d14_6 : decode jdk_42_method_154_code 6 = .ok (.aload_n 0, 1) := by decide +kernel
theorem d14_7 : decode jdk_42_method_154_code 7 = .ok (.getfield 15, 3) := by decide +kernel
theorem d14_10 : decode jdk_42_method_154_code 10 = .ok (.ifCond .ne 7, 3) := by decide +kernel
theorem d14_13 : decode jdk_42_method_154_code 13 = .ok (.iconst 1, 1) := by decide +kernel
theorem d14_14 : decode jdk_42_method_154_code 14 = .ok (.goto 4, 3) := by decide +kernel
theorem d14_17 : decode jdk_42_method_154_code 17 = .ok (.iconst 0, 1) := by decide +kernel
theorem d14_18 : decode jdk_42_method_154_code 18 = .ok (.ireturn, 1) := by decide +kernel
theorem pf14 : plainFor (⟨"java/lang/String", "isLatin1", "()Z"⟩ : MethodName) = true := by first | exact plainFor_of_name (by first | (simp [plainName, overriddenIn]; done) | decide +kernel) | decide +kernel
theorem ef_isLatin1 (m : MethodId) (z0 : Addr) : entryFrame m #[(.ref z0)] 1 = mkF m 0 #[.val (.ref z0)] [] := by first | rfl | (simp [entryFrame, mkF, argsToLocals, Value.category, *]; done) | rfl
set_option maxRecDepth 65536 in
set_option maxHeartbeats 40000000 in
theorem rm_isLatin1 {l : Launch} {Z : State} {a0 : Array Value} {n0 : Nat} (G : Gl Z a0 n0) {h0 : Heap} (O : Old Z n0 h0) (a : Addr) (cs : List Int32) (S : Str Z h0 a cs) :
    Ct [] l Z n0 (⟨"java/lang/String", "isLatin1", "()Z"⟩ : MethodName) jdk_42_method_154_code 1 (some .boolean) ({ frames := 0, cells := 0, slots := 0, locals := 0 } : Room) #[(.ref a)] h0 (fun v h => h = h0 ∧ v = some (.int 1)) := by
  refine Ct.intro pf14 ?_
  intro p e s m below meth c C
  refine AtW.cast ?_ (ef_isLatin1 m a)
  obtain ⟨E, hr, t, FC, FV, A⟩ := id S
  obtain ⟨zc, SC, hzc⟩ := G.cs
  refine w_getS (q := 3) (host := "") C (Or.inl (G.1 _ (List.mem_of_getElem? (i := 18) rfl))) Via.refl (SC.ext O.2) d14_0 rfl ?_
  refine w_if_eq_f (q := 6) C d14_3 rfl hzc ?_
  refine w_aloadN (q := 7) C rfl rfl d14_6 rfl ?_
  refine w_getF (q := 10) (host := "") C (Or.inl (G.1 _ (List.mem_of_getElem? (i := 30) rfl))) Via.refl FC d14_7 rfl ?_
  refine w_if_ne_f (q := 13) C d14_10 rfl (by decide) ?_
  refine w_iconst (q := 14) (v := (1 : Int32)) C (by rfl) d14_13 rfl ?_
  refine w_goto (q := 18) C d14_14 (by decide) (by decide) ?_
  exact w_retZ (z := (1 : Int32)) C (t := .boolean) rfl (by simp) (by decide) d14_18 (by decide) (by decide) ⟨rfl, rfl⟩
theorem d16_0 : decode jdk_43_method_44_code 0 = .ok (.aload_n 0, 1) := by decide +kernel
theorem d16_1 : decode jdk_43_method_44_code 1 = .ok (.iload_n 1, 1) := by decide +kernel
theorem d16_2 : decode jdk_43_method_44_code 2 = .ok (.baload, 1) := by decide +kernel
theorem d16_3 : decode jdk_43_method_44_code 3 = .ok (.sipush 255, 3) := by decide +kernel
theorem d16_6 : decode jdk_43_method_44_code 6 = .ok (.iand, 1) := by decide +kernel
theorem d16_7 : decode jdk_43_method_44_code 7 = .ok (.i2c, 1) := by decide +kernel
theorem d16_8 : decode jdk_43_method_44_code 8 = .ok (.ireturn, 1) := by decide +kernel
theorem pf16 : plainFor (⟨"java/lang/StringLatin1", "getChar", "([BI)C"⟩ : MethodName) = true := by first | exact plainFor_of_name (by first | (simp [plainName, overriddenIn]; done) | decide +kernel) | decide +kernel
theorem ef_getCharL (m : MethodId) (z0 : Addr) (z1 : Int32) : entryFrame m #[(.ref z0), (.int z1)] 2 = mkF m 0 #[.val (.ref z0), .val (.int z1)] [] := by first | rfl | (simp [entryFrame, mkF, argsToLocals, Value.category, *]; done) | rfl
set_option maxRecDepth 65536 in
set_option maxHeartbeats 40000000 in
theorem rm_getCharL {l : Launch} {Z : State} {a0 : Array Value} {n0 : Nat} (G : Gl Z a0 n0) {h0 : Heap} (O : Old Z n0 h0) (t : Addr) (cs : List Int32) (i : Nat) (ch : Int32) (A : Ar Z h0 t .byte (own_bs cs)) (hr : L1 cs) (hi : cs[i]? = some ch) :
    Ct [] l Z n0 (⟨"java/lang/StringLatin1", "getChar", "([BI)C"⟩ : MethodName) jdk_43_method_44_code 2 (some .char) ({ frames := 0, cells := 0, slots := 0, locals := 0 } : Room) #[(.ref t), (.int (Int32.ofNat i))] h0 (fun v h => h = h0 ∧ v = some (.int ch)) := by
  refine Ct.intro pf16 ?_
  intro p e s m below meth c C
  refine AtW.cast ?_ (ef_getCharL m t (Int32.ofNat i))
  have hc := hr.get hi
  refine w_aloadN (q := 1) C rfl rfl d16_0 rfl ?_
  refine w_iloadN (q := 2) C rfl d16_1 rfl ?_
  refine w_baload (q := 3) (i := i) (v := (.int ch.toInt8.toInt32)) C A rfl (own_bs_get hi) d16_2 rfl ?_
  refine w_sipush (q := 6) (v := (255 : Int32)) C (by rfl) d16_3 rfl ?_
  refine w_iand (q := 7) C rfl d16_6 rfl ?_
  refine w_i2c (q := 8) C rfl d16_7 rfl ?_
  rw [show ((ch.toInt8.toInt32 &&& (255 : Int32)).toUInt32.toUInt16.toUInt32.toInt32) = ch from own_lo8 hc.1 hc.2]
  exact w_retZ (z := ch) C (t := .char) rfl (by simp) (own_nar hc.1 hc.2) d16_8 (by decide) (by decide) ⟨rfl, rfl⟩
theorem d18_0 : decode jdk_116_method_1_code 0 = .ok (.iload_n 1, 1) := by decide +kernel
theorem d18_1 : decode jdk_116_method_1_code 1 = .ok (.i2c, 1) := by decide +kernel
theorem d18_2 : decode jdk_116_method_1_code 2 = .ok (.istore_n 2, 1) := by decide +kernel
theorem d18_3 : decode jdk_116_method_1_code 3 = .ok (.getstatic 1, 3) := by decide +kernel
theorem d18_6 : decode jdk_116_method_1_code 6 = .ok (.iload_n 2, 1) := by decide +kernel
theorem d18_7 : decode jdk_116_method_1_code 7 = .ok (.iaload, 1) := by decide +kernel
theorem d18_8 : decode jdk_116_method_1_code 8 = .ok (.istore_n 3, 1) := by decide +kernel
theorem d18_9 : decode jdk_116_method_1_code 9 = .ok (.iload_n 3, 1) := by decide +kernel
theorem d18_10 : decode jdk_116_method_1_code 10 = .ok (.ireturn, 1) := by decide +kernel
theorem pf18 : plainFor (⟨"java/lang/CharacterDataLatin1", "getProperties", "(I)I"⟩ : MethodName) = true := by first | exact plainFor_of_name (by first | (simp [plainName, overriddenIn]; done) | decide +kernel) | decide +kernel
theorem ef_getProps (m : MethodId) (z0 : Addr) (z1 : Int32) : entryFrame m #[(.ref z0), (.int z1)] 4 = mkF m 0 #[.val (.ref z0), .val (.int z1), .unset, .unset] [] := by first | rfl | (simp [entryFrame, mkF, argsToLocals, Value.category, *]; done) | rfl
set_option maxRecDepth 65536 in
set_option maxHeartbeats 40000000 in
theorem rm_getProps {l : Launch} {Z : State} {a0 : Array Value} {n0 : Nat} (G : Gl Z a0 n0) {h0 : Heap} (O : Old Z n0 h0) (o : Addr) (k : Nat) (hk : k < 256) :
    Ct [] l Z n0 (⟨"java/lang/CharacterDataLatin1", "getProperties", "(I)I"⟩ : MethodName) jdk_116_method_1_code 4 (some .int) ({ frames := 0, cells := 0, slots := 0, locals := 0 } : Room) #[(.ref o), (.int (Int32.ofNat k))] h0 (fun v h => h = h0 ∧ v = some (.int (own_A.getD k 0))) := by
  refine Ct.intro pf18 ?_
  intro p e s m below meth c C
  refine AtW.cast ?_ (ef_getProps m o (Int32.ofNat k))
  obtain ⟨x, Sx, Ax⟩ := G.ca
  have hi2 : (Int32.ofNat k).toUInt32.toUInt16.toUInt32.toInt32 = Int32.ofNat k := own_i2c (by rw [own_lt, own_lt, own_nat (by omega)]; have e0 : (0 : Int32).toInt = 0 := rfl; have e1 : (255 : Int32).toInt = 255 := rfl; omega)
  refine w_iloadN (q := 1) C rfl d18_0 rfl ?_
  refine w_i2c (q := 2) C rfl d18_1 rfl ?_
  rw [show ((Int32.ofNat k).toUInt32.toUInt16.toUInt32.toInt32) = (Int32.ofNat k) from hi2]
  refine w_istoreN (q := 3) (L' := #[.val (.ref o), .val (.int (Int32.ofNat k)), .val (.int (Int32.ofNat k)), .unset]) C rfl d18_2 rfl ?_
  refine w_getS (q := 6) (host := "") C (Or.inl (G.1 _ (List.mem_of_getElem? (i := 88) rfl))) Via.refl (Sx.ext O.2) d18_3 rfl ?_
  refine w_iloadN (q := 7) C rfl d18_6 rfl ?_
  refine w_iaload (q := 8) (i := k) (v := (.int (own_A.getD k 0))) C (Ax.ext O.2) rfl (by rw [List.getElem?_map, List.getElem?_eq_getElem (by rw [own_A_len]; exact hk)]; simp [List.getD, own_A_len, hk]) d18_7 rfl ?_
  refine w_istoreN (q := 9) (L' := #[.val (.ref o), .val (.int (Int32.ofNat k)), .val (.int (Int32.ofNat k)), .val (.int (own_A.getD k 0))]) C rfl d18_8 rfl ?_
  refine w_iloadN (q := 10) C rfl d18_9 rfl ?_
  exact w_retI C rfl d18_10 (by decide) (by decide) ⟨rfl, rfl⟩
theorem d17_0 : decode jdk_116_method_26_code 0 = .ok (.aload_n 0, 1) := by decide +kernel
theorem d17_1 : decode jdk_116_method_26_code 1 = .ok (.iload_n 1, 1) := by decide +kernel
theorem d17_2 : decode jdk_116_method_26_code 2 = .ok (.invokevirtual 15, 3) := by decide +kernel
theorem d17_5 : decode jdk_116_method_26_code 5 = .ok (.istore_n 2, 1) := by decide +kernel
theorem d17_6 : decode jdk_116_method_26_code 6 = .ok (.iload_n 2, 1) := by decide +kernel
theorem d17_7 : decode jdk_116_method_26_code 7 = .ok (.sipush 28672, 3) := by decide +kernel
theorem d17_10 : decode jdk_116_method_26_code 10 = .ok (.iand, 1) := by decide +kernel
theorem d17_11 : decode jdk_116_method_26_code 11 = .ok (.sipush 16384, 3) := by decide +kernel
theorem d17_14 : decode jdk_116_method_26_code 14 = .ok (.if_icmp .ne 7, 3) := by decide +kernel
theorem d17_17 : decode jdk_116_method_26_code 17 = .ok (.iconst 1, 1) := by decide +kernel
theorem d17_18 : decode jdk_116_method_26_code 18 = .ok (.goto 4, 3) := by decide +kernel
theorem d17_21 : decode jdk_116_method_26_code 21 = .ok (.iconst 0, 1) := by decide +kernel
theorem d17_22 : decode jdk_116_method_26_code 22 = .ok (.ireturn, 1) := by decide +kernel
theorem pf17 : plainFor (⟨"java/lang/CharacterDataLatin1", "isWhitespace", "(I)Z"⟩ : MethodName) = true := by first | exact plainFor_of_name (by first | (simp [plainName, overriddenIn]; done) | decide +kernel) | decide +kernel
theorem ef_isWsp (m : MethodId) (z0 : Addr) (z1 : Int32) : entryFrame m #[(.ref z0), (.int z1)] 3 = mkF m 0 #[.val (.ref z0), .val (.int z1), .unset] [] := by first | rfl | (simp [entryFrame, mkF, argsToLocals, Value.category, *]; done) | rfl
set_option maxRecDepth 65536 in
set_option maxHeartbeats 40000000 in
theorem rm_isWsp {l : Launch} {Z : State} {a0 : Array Value} {n0 : Nat} (G : Gl Z a0 n0) {h0 : Heap} (O : Old Z n0 h0) (o : Addr) (k : Nat) (E : Exa Z h0 o "java/lang/CharacterDataLatin1") (hk : k < 256) :
    Ct [] l Z n0 (⟨"java/lang/CharacterDataLatin1", "isWhitespace", "(I)Z"⟩ : MethodName) jdk_116_method_26_code 3 (some .boolean) ({ frames := 1, cells := 0, slots := 0, locals := 15 } : Room) #[(.ref o), (.int (Int32.ofNat k))] h0 (fun v h => h = h0 ∧ v = some (.int (if own_isws (Int32.ofNat k) = true then 1 else 0))) := by
  refine Ct.intro pf17 ?_
  intro p e s m below meth c C
  refine AtW.cast ?_ (ef_isWsp m o (Int32.ofNat k))
  have hw := own_wsA ⟨k, hk⟩
  dsimp only at hw
  refine w_aloadN (q := 1) C rfl rfl d17_0 rfl ?_
  refine w_iloadN (q := 2) C rfl d17_1 rfl ?_
  refine w_callV (q := 5) (argsL := [(.int (Int32.ofNat k))]) (S := []) (W := 0) (cells' := 0) (slots' := 0) (a := o) C E (G.1 _ (List.mem_of_getElem? (i := 83) rfl)) (G.1 _ (List.mem_of_getElem? (i := 84) rfl)) (w_nf C (G.1 _ (List.mem_of_getElem? (i := 86) rfl))) (G.1 _ (List.mem_of_getElem? (i := 86) rfl)) (G.1 _ (List.mem_of_getElem? (i := 85) rfl)) (G.1 _ (List.mem_of_getElem? (i := 77) rfl)) (G.1 _ (List.mem_of_getElem? (i := 87) rfl)) (by decide) (rm_getProps G O o k hk) rfl (lenOf pd_17 rfl) rfl (by decide) (own_leb rfl) (by decide) rfl rfl (by decide) (by decide) d17_2 rfl ?_
  rintro _ h1 ⟨eh2, rfl⟩
  rw [eh2]
  show AtW p l e _ s m _ below meth c n0 _ h0 0 0 (mkF m 5 #[.val (.ref o), .val (.int (Int32.ofNat k)), .unset] [(.int (own_A.getD k 0))])
  refine w_istoreN (q := 6) (L' := #[.val (.ref o), .val (.int (Int32.ofNat k)), .val (.int (own_A.getD k 0))]) C rfl d17_5 rfl ?_
  refine w_iloadN (q := 7) C rfl d17_6 rfl ?_
  refine w_sipush (q := 10) (v := (28672 : Int32)) C (by rfl) d17_7 rfl ?_
  refine w_iand (q := 11) C rfl d17_10 rfl ?_
  refine w_sipush (q := 14) (v := (16384 : Int32)) C (by rfl) d17_11 rfl ?_
  by_cases q1 : ((own_A.getD k 0) &&& (28672 : Int32)) = (16384 : Int32)
  · refine w_icmp_ne_f (q := 17) C d17_14 rfl q1 ?_
    refine w_iconst (q := 18) (v := (1 : Int32)) C (by rfl) d17_17 rfl ?_
    refine w_goto (q := 22) C d17_18 (by decide) (by decide) ?_
    exact w_retZ (z := (1 : Int32)) C (t := .boolean) rfl (by simp) (by decide) d17_22 (by decide) (by decide) ⟨rfl, by rw [← hw, decide_eq_true q1]; rfl⟩
  · refine w_icmp_ne_t (q := 21) C d17_14 (by decide) (by decide) q1 ?_
    refine w_iconst (q := 22) (v := (0 : Int32)) C (by rfl) d17_21 rfl ?_
    exact w_retZ (z := (0 : Int32)) C (t := .boolean) rfl (by simp) (by decide) d17_22 (by decide) (by decide) ⟨rfl, by rw [← hw, decide_eq_false q1]; rfl⟩
theorem own_byte {x : Int32} (h : ¬ x < 0 ∧ ¬ 255 < x) : ∃ k : Nat, k < 256 ∧ x = Int32.ofNat k := by
  obtain ⟨h0, h1⟩ := h
  rw [own_lt] at h0 h1
  have e0 : (0 : Int32).toInt = 0 := rfl
  have e1 : (255 : Int32).toInt = 255 := rfl
  exact ⟨x.toInt.toNat, by omega, own_eq.mpr (by rw [own_nat (by omega)]; omega)⟩
def own_nws : List Int32 → Nat → Nat
  | [], i => i
  | c :: r, i => if own_isws c = true then own_nws r (i + 1) else i
theorem own_nws_cons (c : Int32) (r : List Int32) (i : Nat) : own_nws (c :: r) i = if own_isws c = true then own_nws r (i + 1) else i := rfl
theorem own_nws_le : ∀ (cs : List Int32) (i : Nat), i ≤ own_nws cs i ∧ own_nws cs i ≤ i + cs.length
  | [], i => ⟨Nat.le_refl _, Nat.le_refl _⟩
  | c :: r, i => by
    have := own_nws_le r (i + 1)
    unfold own_nws
    split <;> simp only [List.length_cons] <;> omega
theorem own_nws_all : ∀ (cs : List Int32) (i : Nat), own_nws cs i = i + cs.length ↔ cs.all own_isws = true
  | [], i => by simp [own_nws]
  | c :: r, i => by
    have h1 := own_nws_all r (i + 1)
    have h2 := own_nws_le r (i + 1)
    unfold own_nws
    by_cases hc : own_isws c = true
    · rw [if_pos hc, List.all_cons, hc, Bool.true_and, ← h1]
      simp only [List.length_cons]; omega
    · rw [if_neg hc, List.all_cons]
      simp only [List.length_cons, Bool.not_eq_true] at hc ⊢
      rw [hc]; simp

theorem d15_0 : decode jdk_43_method_37_code 0 = .ok (.aload_n 0, 1) := by decide +kernel
theorem d15_1 : decode jdk_43_method_37_code 1 = .ok (.arraylength, 1) := by decide +kernel
theorem d15_2 : decode jdk_43_method_37_code 2 = .ok (.istore_n 1, 1) := by decide +kernel
theorem d15_3 : decode jdk_43_method_37_code 3 = .ok (.iconst 0, 1) := by decide +kernel
theorem d15_4 : decode jdk_43_method_37_code 4 = .ok (.istore_n 2, 1) := by decide +kernel
theorem d15_5 : decode jdk_43_method_37_code 5 = .ok (.iload_n 2, 1) := by decide +kernel
theorem d15_6 : decode jdk_43_method_37_code 6 = .ok (.iload_n 1, 1) := by decide +kernel
theorem d15_7 : decode jdk_43_method_37_code 7 = .ok (.if_icmp .ge 40, 3) := by decide +kernel
theorem d15_10 : decode jdk_43_method_37_code 10 = .ok (.aload_n 0, 1) := by decide +kernel
theorem d15_11 : decode jdk_43_method_37_code 11 = .ok (.iload_n 2, 1) := by decide +kernel
theorem d15_12 : decode jdk_43_method_37_code 12 = .ok (.invokestatic 50, 3) := by decide +kernel
theorem d15_15 : decode jdk_43_method_37_code 15 = .ok (.istore_n 3, 1) := by decide +kernel
theorem d15_16 : decode jdk_43_method_37_code 16 = .ok (.iload_n 3, 1) := by decide +kernel
theorem d15_17 : decode jdk_43_method_37_code 17 = .ok (.bipush 32, 2) := by decide +kernel
theorem d15_19 : decode jdk_43_method_37_code 19 = .ok (.if_icmp .eq 22, 3) := by decide +kernel
theorem d15_22 : decode jdk_43_method_37_code 22 = .ok (.iload_n 3, 1) := by decide +kernel
theorem d15_23 : decode jdk_43_method_37_code 23 = .ok (.bipush 9, 2) := by decide +kernel
theorem d15_25 : decode jdk_43_method_37_code 25 = .ok (.if_icmp .eq 16, 3) := by decide +kernel
theorem d15_28 : decode jdk_43_method_37_code 28 = .ok (.getstatic 66, 3) := by decide +kernel
theorem d15_31 : decode jdk_43_method_37_code 31 = .ok (.iload_n 3, 1) := by decide +kernel
theorem d15_32 : decode jdk_43_method_37_code 32 = .ok (.invokevirtual 211, 3) := by decide +kernel
theorem d15_35 : decode jdk_43_method_37_code 35 = .ok (.ifCond .ne 6, 3) := by decide +kernel
theorem d15_38 : decode jdk_43_method_37_code 38 = .ok (.goto 9, 3) := by decide +kernel
theorem d15_41 : decode jdk_43_method_37_code 41 = .ok (.iinc 2 1, 3) := by decide +kernel
theorem d15_44 : decode jdk_43_method_37_code 44 = .ok (.goto (-39), 3) := by decide +kernel
theorem d15_47 : decode jdk_43_method_37_code 47 = .ok (.iload_n 2, 1) := by decide +kernel
theorem d15_48 : decode jdk_43_method_37_code 48 = .ok (.ireturn, 1) := by decide +kernel
theorem pf15 : plainFor (⟨"java/lang/StringLatin1", "indexOfNonWhitespace", "([B)I"⟩ : MethodName) = true := by first | exact plainFor_of_name (by first | (simp [plainName, overriddenIn]; done) | decide +kernel) | decide +kernel
theorem ef_nonWsL (m : MethodId) (z0 : Addr) : entryFrame m #[(.ref z0)] 4 = mkF m 0 #[.val (.ref z0), .unset, .unset, .unset] [] := by first | rfl | (simp [entryFrame, mkF, argsToLocals, Value.category, *]; done) | rfl
set_option maxRecDepth 65536 in
set_option maxHeartbeats 40000000 in
theorem rm_nonWsL {l : Launch} {Z : State} {a0 : Array Value} {n0 : Nat} (G : Gl Z a0 n0) {h0 : Heap} (O : Old Z n0 h0) (t : Addr) (cs : List Int32) (A : Ar Z h0 t .byte (own_bs cs)) (hr : L1 cs) :
    Ct [] l Z n0 (⟨"java/lang/StringLatin1", "indexOfNonWhitespace", "([B)I"⟩ : MethodName) jdk_43_method_37_code 4 (some .int) ({ frames := 2, cells := 0, slots := 0, locals := 29 } : Room) #[(.ref t)] h0 (fun v h => h = h0 ∧ v = some (.int (Int32.ofNat (own_nws cs 0)))) := by
  refine Ct.intro pf15 ?_
  intro p e s m below meth c C
  refine AtW.cast ?_ (ef_nonWsL m t)
  have hl : cs.length < 2 ^ 31 := by have := A.1; rw [own_bs_len] at this; exact this
  obtain ⟨x, Sx, Ex⟩ := G.ci
  have LOOP : ∀ (k i : Nat) (s3 : Slot), i + k = cs.length → One s3 → own_nws cs 0 = own_nws (cs.drop i) i → AtW p l e ({ frames := 2, cells := 0, slots := 0, locals := 29 } : Room) s m #[(.ref t)] below meth c n0 (fun v h => h = h0 ∧ v = some (.int (Int32.ofNat (own_nws cs 0)))) h0 0 0 (mkF m 5 #[.val (.ref t), .val (.int (Int32.ofNat cs.length)), .val (.int (Int32.ofNat i)), s3] []) := by
    intro k
    induction k with
    | zero =>
      intro i s3 hik hs ew
      obtain rfl : i = cs.length := by omega
      refine w_iloadN (q := 6) C rfl d15_5 rfl ?_
      refine w_iloadN (q := 7) C rfl d15_6 rfl ?_
      refine w_icmp_ge_t (q := 47) C d15_7 (by decide) (by decide) (fun q => Nat.lt_irrefl _ ((own_nlt hl hl).mp q)) ?_
      refine w_iloadN (q := 48) C rfl d15_47 rfl ?_
      exact w_retI C rfl d15_48 (by decide) (by decide) ⟨rfl, by rw [ew, List.drop_length]; rfl⟩
    | succ k ih =>
      intro i s3 hik hs ew
      have hil : i < cs.length := by omega
      obtain ⟨c1, hc1⟩ : ∃ c1, cs[i]? = some c1 := ⟨_, List.getElem?_eq_getElem hil⟩
      have ed : cs.drop i = c1 :: cs.drop (i + 1) := by rw [List.drop_eq_getElem_cons hil]; congr 1; exact Option.some.inj ((List.getElem?_eq_getElem hil).symm.trans hc1)
      rw [ed, own_nws_cons] at ew
      obtain ⟨kb, hkb, ekb⟩ := own_byte (hr.get hc1)
      refine w_iloadN (q := 6) C rfl d15_5 rfl ?_
      refine w_iloadN (q := 7) C rfl d15_6 rfl ?_
      refine w_icmp_ge_f (q := 10) C d15_7 rfl ((own_nlt (by omega) hl).mpr hil) ?_
      refine w_aloadN (q := 11) C rfl rfl d15_10 rfl ?_
      refine w_iloadN (q := 12) C rfl d15_11 rfl ?_
      refine w_callS (q := 15) (argsL := [(.ref t), (.int (Int32.ofNat i))]) (S := []) (W := 0) (cells' := 0) (slots' := 0) C (G.1 _ (List.mem_of_getElem? (i := 73) rfl)) (G.1 _ (List.mem_of_getElem? (i := 74) rfl)) (G.1 _ (List.mem_of_getElem? (i := 71) rfl)) (G.1 _ (List.mem_of_getElem? (i := 75) rfl)) (by decide) (rm_getCharL G O t cs i c1 A hr hc1) rfl (lenOf pd_15 rfl) rfl (by decide) (own_leb rfl) (by decide) rfl rfl (by decide) (by decide) d15_12 rfl ?_
      rintro _ h3 ⟨eh4, rfl⟩
      rw [eh4]
      show AtW p l e _ s m _ below meth c n0 _ h0 0 0 (mkF m 15 #[.val (.ref t), .val (.int (Int32.ofNat cs.length)), .val (.int (Int32.ofNat i)), s3] [(.int c1)])
      refine w_istoreN (q := 16) (L' := #[.val (.ref t), .val (.int (Int32.ofNat cs.length)), .val (.int (Int32.ofNat i)), .val (.int c1)]) C (Jvm.Free.XS.store1 (o := s3) rfl hs rfl) d15_15 rfl ?_
      refine w_iloadN (q := 17) C rfl d15_16 rfl ?_
      refine w_bipush (q := 19) (v := (32 : Int32)) C (by rfl) d15_17 rfl ?_
      by_cases q1 : c1 = (32 : Int32)
      · refine w_icmp_eq_t (q := 41) C d15_19 (by decide) (by decide) q1 ?_
        refine w_iinc (q := 44) (L' := #[.val (.ref t), .val (.int (Int32.ofNat cs.length)), .val (.int (Int32.ofNat (i + 1))), .val (.int c1)]) C rfl (own_one i) rfl d15_41 rfl ?_
        refine w_goto (q := 5) C d15_44 (by decide) (by decide) ?_
        exact ih (i + 1) _ (by omega) (One.val rfl) (by rw [ew, if_pos (by rw [q1]; decide)])
      · refine w_icmp_eq_f (q := 22) C d15_19 rfl q1 ?_
        refine w_iloadN (q := 23) C rfl d15_22 rfl ?_
        refine w_bipush (q := 25) (v := (9 : Int32)) C (by rfl) d15_23 rfl ?_
        by_cases q2 : c1 = (9 : Int32)
        · refine w_icmp_eq_t (q := 41) C d15_25 (by decide) (by decide) q2 ?_
          refine w_iinc (q := 44) (L' := #[.val (.ref t), .val (.int (Int32.ofNat cs.length)), .val (.int (Int32.ofNat (i + 1))), .val (.int c1)]) C rfl (own_one i) rfl d15_41 rfl ?_
          refine w_goto (q := 5) C d15_44 (by decide) (by decide) ?_
          exact ih (i + 1) _ (by omega) (One.val rfl) (by rw [ew, if_pos (by rw [q2]; decide)])
        · refine w_icmp_eq_f (q := 28) C d15_25 rfl q2 ?_
          refine w_getS (q := 31) (host := "") C (Or.inl (G.1 _ (List.mem_of_getElem? (i := 76) rfl))) Via.refl (Sx.ext O.2) d15_28 rfl ?_
          refine w_iloadN (q := 32) C rfl d15_31 rfl ?_
          subst ekb
          refine w_callV (q := 35) (argsL := [(.int (Int32.ofNat kb))]) (S := []) (W := 0) (cells' := 0) (slots' := 0) (a := x) C (Ex.ext O.2) (G.1 _ (List.mem_of_getElem? (i := 78) rfl)) (G.1 _ (List.mem_of_getElem? (i := 79) rfl)) (w_nf C (G.1 _ (List.mem_of_getElem? (i := 81) rfl))) (G.1 _ (List.mem_of_getElem? (i := 81) rfl)) (G.1 _ (List.mem_of_getElem? (i := 80) rfl)) (G.1 _ (List.mem_of_getElem? (i := 77) rfl)) (G.1 _ (List.mem_of_getElem? (i := 82) rfl)) (by decide) (rm_isWsp G O x kb (Ex.ext O.2) hkb) rfl (lenOf pd_16 rfl) rfl (by decide) (own_leb rfl) (by decide) rfl rfl (by decide) (by decide) d15_32 rfl ?_
          rintro _ h5 ⟨eh6, rfl⟩
          rw [eh6]
          show AtW p l e _ s m _ below meth c n0 _ h0 0 0 (mkF m 35 #[.val (.ref t), .val (.int (Int32.ofNat cs.length)), .val (.int (Int32.ofNat i)), .val (.int (Int32.ofNat kb))] [(.int (if own_isws (Int32.ofNat kb) = true then (1 : Int32) else (0 : Int32)))])
          by_cases q3 : own_isws (Int32.ofNat kb) = true
          · rw [show (if own_isws (Int32.ofNat kb) = true then (1 : Int32) else (0 : Int32)) = (1 : Int32) from if_pos q3]
            refine w_if_ne_t (q := 41) C d15_35 (by decide) (by decide) (by decide) ?_
            refine w_iinc (q := 44) (L' := #[.val (.ref t), .val (.int (Int32.ofNat cs.length)), .val (.int (Int32.ofNat (i + 1))), .val (.int (Int32.ofNat kb))]) C rfl (own_one i) rfl d15_41 rfl ?_
            refine w_goto (q := 5) C d15_44 (by decide) (by decide) ?_
            exact ih (i + 1) _ (by omega) (One.val rfl) (by rw [ew, if_pos (q3)])
          · rw [show (if own_isws (Int32.ofNat kb) = true then (1 : Int32) else (0 : Int32)) = (0 : Int32) from if_neg q3]
            refine w_if_ne_f (q := 38) C d15_35 rfl (by decide) ?_
            refine w_goto (q := 47) C d15_38 (by decide) (by decide) ?_
            refine w_iloadN (q := 48) C rfl d15_47 rfl ?_
            exact w_retI C rfl d15_48 (by decide) (by decide) ⟨rfl, by rw [ew, if_neg q3]⟩
  refine w_aloadN (q := 1) C rfl rfl d15_0 rfl ?_
  refine w_len (q := 2) (z := (Int32.ofNat cs.length)) C A (by rw [own_bs_len]) d15_1 rfl ?_
  refine w_istoreN (q := 3) (L' := #[.val (.ref t), .val (.int (Int32.ofNat cs.length)), .unset, .unset]) C rfl d15_2 rfl ?_
  refine w_iconst (q := 4) (v := (0 : Int32)) C (by rfl) d15_3 rfl ?_
  refine w_istoreN (q := 5) (L' := #[.val (.ref t), .val (.int (Int32.ofNat cs.length)), .val (.int (0 : Int32)), .unset]) C rfl d15_4 rfl ?_
  exact LOOP cs.length 0 _ (by omega) One.u rfl
theorem d13_0 : decode jdk_42_method_120_code 0 = .ok (.aload_n 0, 1) := by decide +kernel
theorem d13_1 : decode jdk_42_method_120_code 1 = .ok (.invokevirtual 492, 3) := by decide +kernel
theorem d13_4 : decode jdk_42_method_120_code 4 = .ok (.ifCond .eq 13, 3) := by decide +kernel
theorem d13_7 : decode jdk_42_method_120_code 7 = .ok (.aload_n 0, 1) := by decide +kernel
theorem d13_8 : decode jdk_42_method_120_code 8 = .ok (.getfield 9, 3) := by decide +kernel
theorem d13_11 : decode jdk_42_method_120_code 11 = .ok (.invokestatic 924, 3) := by decide +kernel
theorem d13_14 : decode jdk_42_method_120_code 14 = .ok (.goto 10, 3) := by decide +kernel
theorem d13_17 : decode jdk_42_method_120_code 17 = .ok (.aload_n 0, 1) := by decide +kernel
theorem d13_18 : decode jdk_42_method_120_code 18 = .ok (.getfield 9, 3) := by decide +kernel
theorem d13_21 : decode jdk_42_method_120_code 21 = .ok (.invokestatic 926, 3) := by decide +kernel
theorem d13_24 : decode jdk_42_method_120_code 24 = .ok (.ireturn, 1) := by decide +kernel
theorem pf13 : plainFor (⟨"java/lang/String", "indexOfNonWhitespace", "()I"⟩ : MethodName) = true := by first | exact plainFor_of_name (by first | (simp [plainName, overriddenIn]; done) | decide +kernel) | decide +kernel
theorem ef_nonWs (m : MethodId) (z0 : Addr) : entryFrame m #[(.ref z0)] 1 = mkF m 0 #[.val (.ref z0)] [] := by first | rfl | (simp [entryFrame, mkF, argsToLocals, Value.category, *]; done) | rfl
set_option maxRecDepth 65536 in
set_option maxHeartbeats 40000000 in
theorem rm_nonWs {l : Launch} {Z : State} {a0 : Array Value} {n0 : Nat} (G : Gl Z a0 n0) {h0 : Heap} (O : Old Z n0 h0) (a : Addr) (cs : List Int32) (S : Str Z h0 a cs) :
    Ct [] l Z n0 (⟨"java/lang/String", "indexOfNonWhitespace", "()I"⟩ : MethodName) jdk_42_method_120_code 1 (some .int) ({ frames := 3, cells := 0, slots := 0, locals := 44 } : Room) #[(.ref a)] h0 (fun v h => h = h0 ∧ v = some (.int (Int32.ofNat (own_nws cs 0)))) := by
  refine Ct.intro pf13 ?_
  intro p e s m below meth c C
  refine AtW.cast ?_ (ef_nonWs m a)
  obtain ⟨E, hr, t, FC, FV, A⟩ := id S
  refine w_aloadN (q := 1) C rfl rfl d13_0 rfl ?_
  refine w_callV (q := 4) (argsL := []) (S := []) (W := 0) (cells' := 0) (slots' := 0) (a := a) C E (G.1 _ (List.mem_of_getElem? (i := 64) rfl)) (G.1 _ (List.mem_of_getElem? (i := 65) rfl)) (w_nf C (G.1 _ (List.mem_of_getElem? (i := 67) rfl))) (G.1 _ (List.mem_of_getElem? (i := 67) rfl)) (G.1 _ (List.mem_of_getElem? (i := 66) rfl)) (G.1 _ (List.mem_of_getElem? (i := 7) rfl)) (G.1 _ (List.mem_of_getElem? (i := 68) rfl)) (by decide) (rm_isLatin1 G O a cs S) rfl (lenOf pd_12 rfl) rfl (by decide) (own_leb rfl) (by decide) rfl rfl (by decide) (by decide) d13_1 rfl ?_
  rintro _ h7 ⟨eh8, rfl⟩
  rw [eh8]
  show AtW p l e _ s m _ below meth c n0 _ h0 0 0 (mkF m 4 #[.val (.ref a)] [(.int (1 : Int32))])
  refine w_if_eq_f (q := 7) C d13_4 rfl (by decide) ?_
  refine w_aloadN (q := 8) C rfl rfl d13_7 rfl ?_
  refine w_getF (q := 11) (host := "") C (Or.inl (G.1 _ (List.mem_of_getElem? (i := 32) rfl))) Via.refl FV d13_8 rfl ?_
  refine w_callS (q := 14) (argsL := [(.ref t)]) (S := []) (W := 0) (cells' := 0) (slots' := 0) C (G.1 _ (List.mem_of_getElem? (i := 69) rfl)) (G.1 _ (List.mem_of_getElem? (i := 70) rfl)) (G.1 _ (List.mem_of_getElem? (i := 71) rfl)) (G.1 _ (List.mem_of_getElem? (i := 72) rfl)) (by decide) (rm_nonWsL G O t cs A hr) rfl (lenOf pd_14 rfl) rfl (by decide) (own_leb rfl) (by decide) rfl rfl (by decide) (by decide) d13_11 rfl ?_
  rintro _ h9 ⟨eh10, rfl⟩
  rw [eh10]
  show AtW p l e _ s m _ below meth c n0 _ h0 0 0 (mkF m 14 #[.val (.ref a)] [(.int (Int32.ofNat (own_nws cs 0)))])
  refine w_goto (q := 24) C d13_14 (by decide) (by decide) ?_
  exact w_retI C rfl d13_24 (by decide) (by decide) ⟨rfl, rfl⟩
theorem d20_0 : decode jdk_42_method_152_code 0 = .ok (.getstatic 38, 3) := by decide +kernel
theorem d20_3 : decode jdk_42_method_152_code 3 = .ok (.ifCond .eq 10, 3) := by decide +kernel
theorem d20_6 : decode jdk_42_method_152_code 6 = .ok (.aload_n 0, 1) := by decide +kernel
theorem d20_7 : decode jdk_42_method_152_code 7 = .ok (.getfield 15, 3) := by decide +kernel
theorem d20_10 : decode jdk_42_method_152_code 10 = .ok (.goto 4, 3) := by decide +kernel
theorem d20_13 : decode jdk_42_method_152_code 13 = .ok (.iconst 1, 1) := by decide +kernel
theorem d20_14 : decode jdk_42_method_152_code 14 = .ok (.ireturn, 1) := by decide +kernel
theorem pf20 : plainFor (⟨"java/lang/String", "coder", "()B"⟩ : MethodName) = true := by first | exact plainFor_of_name (by first | (simp [plainName, overriddenIn]; done) | decide +kernel) | decide +kernel
theorem ef_coder (m : MethodId) (z0 : Addr) : entryFrame m #[(.ref z0)] 1 = mkF m 0 #[.val (.ref z0)] [] := by first | rfl | (simp [entryFrame, mkF, argsToLocals, Value.category, *]; done) | rfl
set_option maxRecDepth 65536 in
set_option maxHeartbeats 40000000 in
theorem rm_coder {l : Launch} {Z : State} {a0 : Array Value} {n0 : Nat} (G : Gl Z a0 n0) {h0 : Heap} (O : Old Z n0 h0) (a : Addr) (cs : List Int32) (S : Str Z h0 a cs) :
    Ct [] l Z n0 (⟨"java/lang/String", "coder", "()B"⟩ : MethodName) jdk_42_method_152_code 1 (some .byte) ({ frames := 0, cells := 0, slots := 0, locals := 0 } : Room) #[(.ref a)] h0 (fun v h => h = h0 ∧ v = some (.int 0)) := by
  refine Ct.intro pf20 ?_
  intro p e s m below meth c C
  refine AtW.cast ?_ (ef_coder m a)
  obtain ⟨E, hr, t, FC, FV, A⟩ := id S
  obtain ⟨zc, SC, hzc⟩ := G.cs
  refine w_getS (q := 3) (host := "") C (Or.inl (G.1 _ (List.mem_of_getElem? (i := 18) rfl))) Via.refl (SC.ext O.2) d20_0 rfl ?_
  refine w_if_eq_f (q := 6) C d20_3 rfl hzc ?_
  refine w_aloadN (q := 7) C rfl rfl d20_6 rfl ?_
  refine w_getF (q := 10) (host := "") C (Or.inl (G.1 _ (List.mem_of_getElem? (i := 30) rfl))) Via.refl FC d20_7 rfl ?_
  refine w_goto (q := 14) C d20_10 (by decide) (by decide) ?_
  exact w_retZ (z := (0 : Int32)) C (t := .byte) rfl (by simp) (by decide) d20_14 (by decide) (by decide) ⟨rfl, rfl⟩
theorem d19_0 : decode jdk_42_method_54_code 0 = .ok (.aload_n 0, 1) := by decide +kernel
theorem d19_1 : decode jdk_42_method_54_code 1 = .ok (.getfield 9, 3) := by decide +kernel
theorem d19_4 : decode jdk_42_method_54_code 4 = .ok (.arraylength, 1) := by decide +kernel
theorem d19_5 : decode jdk_42_method_54_code 5 = .ok (.aload_n 0, 1) := by decide +kernel
theorem d19_6 : decode jdk_42_method_54_code 6 = .ok (.invokevirtual 335, 3) := by decide +kernel
theorem d19_9 : decode jdk_42_method_54_code 9 = .ok (.ishr, 1) := by decide +kernel
theorem d19_10 : decode jdk_42_method_54_code 10 = .ok (.ireturn, 1) := by decide +kernel
theorem pf19 : plainFor (⟨"java/lang/String", "length", "()I"⟩ : MethodName) = true := by first | exact plainFor_of_name (by first | (simp [plainName, overriddenIn]; done) | decide +kernel) | decide +kernel
theorem ef_length (m : MethodId) (z0 : Addr) : entryFrame m #[(.ref z0)] 1 = mkF m 0 #[.val (.ref z0)] [] := by first | rfl | (simp [entryFrame, mkF, argsToLocals, Value.category, *]; done) | rfl
set_option maxRecDepth 65536 in
set_option maxHeartbeats 40000000 in
theorem rm_length {l : Launch} {Z : State} {a0 : Array Value} {n0 : Nat} (G : Gl Z a0 n0) {h0 : Heap} (O : Old Z n0 h0) (a : Addr) (cs : List Int32) (S : Str Z h0 a cs) :
    Ct [] l Z n0 (⟨"java/lang/String", "length", "()I"⟩ : MethodName) jdk_42_method_54_code 1 (some .int) ({ frames := 1, cells := 0, slots := 0, locals := 13 } : Room) #[(.ref a)] h0 (fun v h => h = h0 ∧ v = some (.int (Int32.ofNat cs.length))) := by
  refine Ct.intro pf19 ?_
  intro p e s m below meth c C
  refine AtW.cast ?_ (ef_length m a)
  obtain ⟨E, hr, t, FC, FV, A⟩ := id S
  refine w_aloadN (q := 1) C rfl rfl d19_0 rfl ?_
  refine w_getF (q := 4) (host := "") C (Or.inl (G.1 _ (List.mem_of_getElem? (i := 32) rfl))) Via.refl FV d19_1 rfl ?_
  refine w_len (q := 5) (z := (Int32.ofNat cs.length)) C A (by rw [own_bs_len]) d19_4 rfl ?_
  refine w_aloadN (q := 6) C rfl rfl d19_5 rfl ?_
  refine w_callV (q := 9) (argsL := []) (S := [(.int (Int32.ofNat cs.length))]) (W := 1) (cells' := 0) (slots' := 0) (a := a) C E (G.1 _ (List.mem_of_getElem? (i := 94) rfl)) (G.1 _ (List.mem_of_getElem? (i := 95) rfl)) (w_nf C (G.1 _ (List.mem_of_getElem? (i := 97) rfl))) (G.1 _ (List.mem_of_getElem? (i := 97) rfl)) (G.1 _ (List.mem_of_getElem? (i := 96) rfl)) (G.1 _ (List.mem_of_getElem? (i := 7) rfl)) (G.1 _ (List.mem_of_getElem? (i := 98) rfl)) (by decide) (rm_coder G O a cs S) rfl (lenOf pd_18 rfl) rfl (by decide) (own_leb rfl) (by decide) rfl rfl (by decide) (by decide) d19_6 rfl ?_
  rintro _ h11 ⟨eh12, rfl⟩
  rw [eh12]
  show AtW p l e _ s m _ below meth c n0 _ h0 0 0 (mkF m 9 #[.val (.ref a)] [(.int (0 : Int32)), (.int (Int32.ofNat cs.length))])
  refine w_ishr (q := 10) C rfl d19_9 rfl ?_
  rw [show ((Int32.ofNat cs.length) >>> ((0 : Int32) &&& 31)) = (Int32.ofNat cs.length) from own_shr0 _]
  exact w_retI C rfl d19_10 (by decide) (by decide) ⟨rfl, rfl⟩
theorem d12_0 : decode jdk_42_method_117_code 0 = .ok (.aload_n 0, 1) := by decide +kernel
theorem d12_1 : decode jdk_42_method_117_code 1 = .ok (.invokevirtual 876, 3) := by decide +kernel
theorem d12_4 : decode jdk_42_method_117_code 4 = .ok (.aload_n 0, 1) := by decide +kernel
theorem d12_5 : decode jdk_42_method_117_code 5 = .ok (.invokevirtual 505, 3) := by decide +kernel
theorem d12_8 : decode jdk_42_method_117_code 8 = .ok (.if_icmp .ne 7, 3) := by decide +kernel
theorem d12_11 : decode jdk_42_method_117_code 11 = .ok (.iconst 1, 1) := by decide +kernel
theorem d12_12 : decode jdk_42_method_117_code 12 = .ok (.goto 4, 3) := by decide +kernel
theorem d12_15 : decode jdk_42_method_117_code 15 = .ok (.iconst 0, 1) := by decide +kernel
theorem d12_16 : decode jdk_42_method_117_code 16 = .ok (.ireturn, 1) := by decide +kernel
theorem pf12 : plainFor (⟨"java/lang/String", "isBlank", "()Z"⟩ : MethodName) = true := by first | exact plainFor_of_name (by first | (simp [plainName, overriddenIn]; done) | decide +kernel) | decide +kernel
theorem ef_isBlank (m : MethodId) (z0 : Addr) : entryFrame m #[(.ref z0)] 1 = mkF m 0 #[.val (.ref z0)] [] := by first | rfl | (simp [entryFrame, mkF, argsToLocals, Value.category, *]; done) | rfl
set_option maxRecDepth 65536 in
set_option maxHeartbeats 40000000 in
theorem rm_isBlank {l : Launch} {Z : State} {a0 : Array Value} {n0 : Nat} (G : Gl Z a0 n0) {h0 : Heap} (O : Old Z n0 h0) (a : Addr) (cs : List Int32) (S : Str Z h0 a cs) (hb : ¬ cs.all own_isws = true) :
    Ct [] l Z n0 (⟨"java/lang/String", "isBlank", "()Z"⟩ : MethodName) jdk_42_method_117_code 1 (some .boolean) ({ frames := 4, cells := 0, slots := 0, locals := 56 } : Room) #[(.ref a)] h0 (fun v h => h = h0 ∧ v = some (.int 0)) := by
  refine Ct.intro pf12 ?_
  intro p e s m below meth c C
  refine AtW.cast ?_ (ef_isBlank m a)
  obtain ⟨E, hr, t, FC, FV, A⟩ := id S
  have hl := S.len
  have hle := (own_nws_le cs 0).2
  refine w_aloadN (q := 1) C rfl rfl d12_0 rfl ?_
  refine w_callP (q := 4) (argsL := []) (S := []) (W := 0) (cells' := 0) (slots' := 0) (a := a) C E (G.1 _ (List.mem_of_getElem? (i := 59) rfl)) (G.1 _ (List.mem_of_getElem? (i := 60) rfl)) (NI.of_sel (args := #[]) (z := ({ cls := "java/lang/String", name := "isBlank", desc := "()Z" } : Jvm.MethodName)) (mvT C.2.2.2.1 (G.1 _ (List.mem_of_getElem? (i := 57) rfl)))) (G.1 _ (List.mem_of_getElem? (i := 61) rfl)) (G.1 _ (List.mem_of_getElem? (i := 7) rfl)) (G.1 _ (List.mem_of_getElem? (i := 63) rfl)) (by decide) (rm_nonWs G O a cs S) rfl (lenOf pd_13 rfl) rfl (by decide) (own_leb rfl) (by decide) rfl rfl (by decide) (by decide) d12_1 rfl ?_
  rintro _ h13 ⟨eh14, rfl⟩
  rw [eh14]
  show AtW p l e _ s m _ below meth c n0 _ h0 0 0 (mkF m 4 #[.val (.ref a)] [(.int (Int32.ofNat (own_nws cs 0)))])
  refine w_aloadN (q := 5) C rfl rfl d12_4 rfl ?_
  refine w_callV (q := 8) (argsL := []) (S := [(.int (Int32.ofNat (own_nws cs 0)))]) (W := 1) (cells' := 0) (slots' := 0) (a := a) C E (G.1 _ (List.mem_of_getElem? (i := 89) rfl)) (G.1 _ (List.mem_of_getElem? (i := 90) rfl)) (w_nf C (G.1 _ (List.mem_of_getElem? (i := 92) rfl))) (G.1 _ (List.mem_of_getElem? (i := 92) rfl)) (G.1 _ (List.mem_of_getElem? (i := 91) rfl)) (G.1 _ (List.mem_of_getElem? (i := 7) rfl)) (G.1 _ (List.mem_of_getElem? (i := 93) rfl)) (by decide) (rm_length G O a cs S) rfl (lenOf pd_13 rfl) rfl (by decide) (own_leb rfl) (by decide) rfl rfl (by decide) (by decide) d12_5 rfl ?_
  rintro _ h15 ⟨eh16, rfl⟩
  rw [eh16]
  show AtW p l e _ s m _ below meth c n0 _ h0 0 0 (mkF m 8 #[.val (.ref a)] [(.int (Int32.ofNat cs.length)), (.int (Int32.ofNat (own_nws cs 0)))])
  refine w_icmp_ne_t (q := 15) C d12_8 (by decide) (by decide) (fun q => hb ((own_nws_all cs 0).mp (by rw [Nat.zero_add]; exact (own_neq (by omega) hl).mp q))) ?_
  refine w_iconst (q := 16) (v := (0 : Int32)) C (by rfl) d12_15 rfl ?_
  exact w_retZ (z := (0 : Int32)) C (t := .boolean) rfl (by simp) (by decide) d12_16 (by decide) (by decide) ⟨rfl, rfl⟩
theorem own_fill (cs : List Int32) (i k : Nat) (c : Int32) (h : cs[i]? = some c) : (own_bs (cs.take i) ++ List.replicate (k + 1) (Value.int (0 : Int32))).set i (.int c.toInt8.toInt32) = own_bs (cs.take (i + 1)) ++ List.replicate k (Value.int (0 : Int32)) := by
  obtain ⟨hi, hg⟩ := List.getElem?_eq_some_iff.mp h
  have hl : (own_bs (cs.take i)).length = i := by rw [own_bs_len, List.length_take]; omega
  rw [List.set_append_right _ _ (by omega), hl, Nat.sub_self, List.replicate_succ, List.set_cons_zero, List.take_add_one, h]
  simp [own_bs]

theorem d6_0 : decode jdk_52_method_21_code 0 = .ok (.iconst 0, 1) := by decide +kernel
theorem d6_1 : decode jdk_52_method_21_code 1 = .ok (.istore 5, 2) := by decide +kernel
theorem d6_3 : decode jdk_52_method_21_code 3 = .ok (.iload 5, 2) := by decide +kernel
theorem d6_5 : decode jdk_52_method_21_code 5 = .ok (.iload 4, 2) := by decide +kernel
theorem d6_7 : decode jdk_52_method_21_code 7 = .ok (.if_icmp .ge 37, 3) := by decide +kernel
theorem d6_10 : decode jdk_52_method_21_code 10 = .ok (.aload_n 0, 1) := by decide +kernel
theorem d6_11 : decode jdk_52_method_21_code 11 = .ok (.iload_n 1, 1) := by decide +kernel
theorem d6_12 : decode jdk_52_method_21_code 12 = .ok (.caload, 1) := by decide +kernel
theorem d6_13 : decode jdk_52_method_21_code 13 = .ok (.istore 6, 2) := by decide +kernel
theorem d6_15 : decode jdk_52_method_21_code 15 = .ok (.iload 6, 2) := by decide +kernel
theorem d6_17 : decode jdk_52_method_21_code 17 = .ok (.sipush 255, 3) := by decide +kernel
theorem d6_20 : decode jdk_52_method_21_code 20 = .ok (.if_icmp .le 6, 3) := by decide +kernel
theorem d6_23 : decode jdk_52_method_21_code 23 = .ok (.iload 5, 2) := by decide +kernel
theorem d6_25 : decode jdk_52_method_21_code 25 = .ok (.ireturn, 1) := by decide +kernel
theorem d6_26 : decode jdk_52_method_21_code 26 = .ok (.aload_n 2, 1) := by decide +kernel
theorem d6_27 : decode jdk_52_method_21_code 27 = .ok (.iload_n 3, 1) := by decide +kernel
theorem d6_28 : decode jdk_52_method_21_code 28 = .ok (.iload 6, 2) := by decide +kernel
theorem d6_30 : decode jdk_52_method_21_code 30 = .ok (.i2b, 1) := by decide +kernel
theorem d6_31 : decode jdk_52_method_21_code 31 = .ok (.bastore, 1) := by decide +kernel
theorem d6_32 : decode jdk_52_method_21_code 32 = .ok (.iinc 1 1, 3) := by decide +kernel
theorem d6_35 : decode jdk_52_method_21_code 35 = .ok (.iinc 3 1, 3) := by decide +kernel
theorem d6_38 : decode jdk_52_method_21_code 38 = .ok (.iinc 5 1, 3) := by decide +kernel
theorem d6_41 : decode jdk_52_method_21_code 41 = .ok (.goto (-38), 3) := by decide +kernel
theorem d6_44 : decode jdk_52_method_21_code 44 = .ok (.iload 4, 2) := by decide +kernel
theorem d6_46 : decode jdk_52_method_21_code 46 = .ok (.ireturn, 1) := by decide +kernel
theorem pf6 : plainFor (⟨"java/lang/StringUTF16", "compress", "([CI[BII)I"⟩ : MethodName) = true := by first | exact plainFor_of_name (by first | (simp [plainName, overriddenIn]; done) | decide +kernel) | decide +kernel
theorem ef_comp5 (m : MethodId) (z0 : Addr) (z1 : Int32) (z2 : Addr) (z3 : Int32) (z4 : Int32) : entryFrame m #[(.ref z0), (.int z1), (.ref z2), (.int z3), (.int z4)] 7 = mkF m 0 #[.val (.ref z0), .val (.int z1), .val (.ref z2), .val (.int z3), .val (.int z4), .unset, .unset] [] := by first | rfl | (simp [entryFrame, mkF, argsToLocals, Value.category, *]; done) | rfl
set_option maxRecDepth 65536 in
set_option maxHeartbeats 40000000 in
theorem rm_comp5 {l : Launch} {Z : State} {a0 : Array Value} {n0 : Nat} (G : Gl Z a0 n0) {h0 : Heap} (O : Old Z n0 h0) (a : Addr) (cs : List Int32) (t : Addr) (A : Ar Z h0 a .char (cs.map Value.int)) (hr : L1 cs) (B : Ar Z h0 t .byte (List.replicate cs.length (Value.int (0 : Int32)))) (hne : a ≠ t) (hge : n0 ≤ t) :
    Ct [] l Z n0 (⟨"java/lang/StringUTF16", "compress", "([CI[BII)I"⟩ : MethodName) jdk_52_method_21_code 7 (some .int) ({ frames := 0, cells := 0, slots := 0, locals := 0 } : Room) #[(.ref a), (.int (0 : Int32)), (.ref t), (.int (0 : Int32)), (.int (Int32.ofNat cs.length))] h0 (fun v h => Keep h0 h [t] ∧ v = some (.int (Int32.ofNat cs.length)) ∧ Ar Z h t .byte (own_bs cs)) := by
  refine Ct.intro pf6 ?_
  intro p e s m below meth c C
  refine AtW.cast ?_ (ef_comp5 m a (0 : Int32) t (0 : Int32) (Int32.ofNat cs.length))
  have hl : cs.length < 2 ^ 31 := by have := A.1; rw [List.length_map] at this; exact this
  have LOOP : ∀ (k i : Nat) (h1 : Heap) (s6 : Slot), i + k = cs.length → One s6 → Keep h0 h1 [t] → Ar Z h1 t .byte (own_bs (cs.take i) ++ List.replicate k (Value.int (0 : Int32))) → AtW p l e ({ frames := 0, cells := 0, slots := 0, locals := 0 } : Room) s m #[(.ref a), (.int (0 : Int32)), (.ref t), (.int (0 : Int32)), (.int (Int32.ofNat cs.length))] below meth c n0 (fun v h => Keep h0 h [t] ∧ v = some (.int (Int32.ofNat cs.length)) ∧ Ar Z h t .byte (own_bs cs)) h1 0 0 (mkF m 3 #[.val (.ref a), .val (.int (Int32.ofNat i)), .val (.ref t), .val (.int (Int32.ofNat i)), .val (.int (Int32.ofNat cs.length)), .val (.int (Int32.ofNat i)), s6] []) := by
    intro k
    induction k with
    | zero =>
      intro i h1 s6 hik hs K V
      obtain rfl : i = cs.length := by omega
      refine w_iload (q := 5) C rfl d6_3 rfl ?_
      refine w_iload (q := 7) C rfl d6_5 rfl ?_
      refine w_icmp_ge_t (q := 44) C d6_7 (by decide) (by decide) (fun q => Nat.lt_irrefl _ ((own_nlt hl hl).mp q)) ?_
      refine w_iload (q := 46) C rfl d6_44 rfl ?_
      exact w_retI C rfl d6_46 (by decide) (by decide) ⟨K, rfl, by simpa using V⟩
    | succ k ih =>
      intro i h1 s6 hik hs K V
      have hil : i < cs.length := by omega
      obtain ⟨ch, hch⟩ : ∃ ch, cs[i]? = some ch := ⟨_, List.getElem?_eq_getElem hil⟩
      have hc := hr.get hch
      refine w_iload (q := 5) C rfl d6_3 rfl ?_
      refine w_iload (q := 7) C rfl d6_5 rfl ?_
      refine w_icmp_ge_f (q := 10) C d6_7 rfl ((own_nlt (by omega) hl).mpr hil) ?_
      refine w_aloadN (q := 11) C rfl rfl d6_10 rfl ?_
      refine w_iloadN (q := 12) C rfl d6_11 rfl ?_
      refine w_caload (q := 13) (i := i) (v := (.int ch)) C (A.keep K (ninS hne nin0)) rfl (by simp [hch]) d6_12 rfl ?_
      refine w_istore (q := 15) (L' := #[.val (.ref a), .val (.int (Int32.ofNat i)), .val (.ref t), .val (.int (Int32.ofNat i)), .val (.int (Int32.ofNat cs.length)), .val (.int (Int32.ofNat i)), .val (.int ch)]) C (Jvm.Free.XS.store1 (o := s6) rfl hs rfl) d6_13 rfl ?_
      refine w_iload (q := 17) C rfl d6_15 rfl ?_
      refine w_sipush (q := 20) (v := (255 : Int32)) C (by rfl) d6_17 rfl ?_
      refine w_icmp_le_t (q := 26) C d6_20 (by decide) (by decide) hc.2 ?_
      refine w_aloadN (q := 27) C rfl rfl d6_26 rfl ?_
      refine w_iloadN (q := 28) C rfl d6_27 rfl ?_
      refine w_iload (q := 30) C rfl d6_28 rfl ?_
      refine w_i2b (q := 31) C rfl d6_30 rfl ?_
      refine w_bastore (q := 32) (z := ch.toInt8.toInt32) (i := i) C (own_nar8 ch) V rfl (by simp [own_bs_len]; omega) hge d6_31 rfl ?_
      intro h17 Wh17 Vh17
      rw [own_fill cs i k ch hch] at Vh17
      refine w_iinc (q := 35) (L' := #[.val (.ref a), .val (.int (Int32.ofNat (i + 1))), .val (.ref t), .val (.int (Int32.ofNat i)), .val (.int (Int32.ofNat cs.length)), .val (.int (Int32.ofNat i)), .val (.int ch)]) C rfl (own_one i) rfl d6_32 rfl ?_
      refine w_iinc (q := 38) (L' := #[.val (.ref a), .val (.int (Int32.ofNat (i + 1))), .val (.ref t), .val (.int (Int32.ofNat (i + 1))), .val (.int (Int32.ofNat cs.length)), .val (.int (Int32.ofNat i)), .val (.int ch)]) C rfl (own_one i) rfl d6_35 rfl ?_
      refine w_iinc (q := 41) (L' := #[.val (.ref a), .val (.int (Int32.ofNat (i + 1))), .val (.ref t), .val (.int (Int32.ofNat (i + 1))), .val (.int (Int32.ofNat cs.length)), .val (.int (Int32.ofNat (i + 1))), .val (.int ch)]) C rfl (own_one i) rfl d6_38 rfl ?_
      refine w_goto (q := 3) C d6_41 (by decide) (by decide) ?_
      exact ih (i + 1) h17 _ (by omega) (One.val rfl) (K.wr Wh17 (Or.inl (List.mem_cons_self ..))) Vh17
  refine w_iconst (q := 1) (v := (0 : Int32)) C (by rfl) d6_0 rfl ?_
  refine w_istore (q := 3) (L' := #[.val (.ref a), .val (.int (0 : Int32)), .val (.ref t), .val (.int (0 : Int32)), .val (.int (Int32.ofNat cs.length)), .val (.int (0 : Int32)), .unset]) C rfl d6_1 rfl ?_
  exact LOOP cs.length 0 h0 .unset (by omega) One.u (Keep.refl _ _) (by simpa [own_bs] using B)
theorem own_K1 {h0 h1 h2 : Heap} {t : Addr} (K1 : Keep h0 h1 []) (K2 : Keep h1 h2 [t]) (g : h0.size ≤ t) : Keep h0 h2 [] := K1.trans K2 (allS (P := fun x => x ∈ [] ∨ h0.size ≤ x) (Or.inr g) all0)
theorem own_K0 {h0 h1 h2 : Heap} {ws : List Addr} (K1 : Keep h0 h1 ws) (K2 : Keep h1 h2 []) : Keep h0 h2 ws := K1.trans K2 (all0 (P := fun x => x ∈ ws ∨ h0.size ≤ x))

theorem d5_0 : decode jdk_52_method_16_code 0 = .ok (.iload_n 2, 1) := by decide +kernel
theorem d5_1 : decode jdk_52_method_16_code 1 = .ok (.newarray .byte, 2) := by decide +kernel
theorem d5_3 : decode jdk_52_method_16_code 3 = .ok (.astore_n 3, 1) := by decide +kernel
theorem d5_4 : decode jdk_52_method_16_code 4 = .ok (.aload_n 0, 1) := by decide +kernel
theorem d5_5 : decode jdk_52_method_16_code 5 = .ok (.iload_n 1, 1) := by decide +kernel
theorem d5_6 : decode jdk_52_method_16_code 6 = .ok (.aload_n 3, 1) := by decide +kernel
theorem d5_7 : decode jdk_52_method_16_code 7 = .ok (.iconst 0, 1) := by decide +kernel
theorem d5_8 : decode jdk_52_method_16_code 8 = .ok (.iload_n 2, 1) := by decide +kernel
theorem d5_9 : decode jdk_52_method_16_code 9 = .ok (.invokestatic 115, 3) := by decide +kernel
theorem d5_12 : decode jdk_52_method_16_code 12 = .ok (.istore 4, 2) := by decide +kernel
theorem d5_14 : decode jdk_52_method_16_code 14 = .ok (.iload 4, 2) := by decide +kernel
theorem d5_16 : decode jdk_52_method_16_code 16 = .ok (.iload_n 2, 1) := by decide +kernel
theorem d5_17 : decode jdk_52_method_16_code 17 = .ok (.if_icmp .eq 40, 3) := by decide +kernel
theorem d5_20 : decode jdk_52_method_16_code 20 = .ok (.aload_n 0, 1) := by decide +kernel
theorem d5_21 : decode jdk_52_method_16_code 21 = .ok (.iload_n 1, 1) := by decide +kernel
theorem d5_22 : decode jdk_52_method_16_code 22 = .ok (.iload_n 2, 1) := by decide +kernel
theorem d5_23 : decode jdk_52_method_16_code 23 = .ok (.invokestatic 119, 3) := by decide +kernel
theorem d5_26 : decode jdk_52_method_16_code 26 = .ok (.astore 5, 2) := by decide +kernel
theorem d5_28 : decode jdk_52_method_16_code 28 = .ok (.aload 5, 2) := by decide +kernel
theorem d5_30 : decode jdk_52_method_16_code 30 = .ok (.iload 4, 2) := by decide +kernel
theorem d5_32 : decode jdk_52_method_16_code 32 = .ok (.invokestatic 71, 3) := by decide +kernel
theorem d5_35 : decode jdk_52_method_16_code 35 = .ok (.sipush 255, 3) := by decide +kernel
theorem d5_38 : decode jdk_52_method_16_code 38 = .ok (.if_icmp .gt 16, 3) := by decide +kernel
theorem d5_41 : decode jdk_52_method_16_code 41 = .ok (.aload 5, 2) := by decide +kernel
theorem d5_43 : decode jdk_52_method_16_code 43 = .ok (.iconst 0, 1) := by decide +kernel
theorem d5_44 : decode jdk_52_method_16_code 44 = .ok (.aload_n 3, 1) := by decide +kernel
theorem d5_45 : decode jdk_52_method_16_code 45 = .ok (.iconst 0, 1) := by decide +kernel
theorem d5_46 : decode jdk_52_method_16_code 46 = .ok (.iload_n 2, 1) := by decide +kernel
theorem d5_47 : decode jdk_52_method_16_code 47 = .ok (.invokestatic 123, 3) := by decide +kernel
theorem d5_50 : decode jdk_52_method_16_code 50 = .ok (.iload_n 2, 1) := by decide +kernel
theorem d5_51 : decode jdk_52_method_16_code 51 = .ok (.if_icmp .eq 6, 3) := by decide +kernel
theorem d5_54 : decode jdk_52_method_16_code 54 = .ok (.aload 5, 2) := by decide +kernel
theorem d5_56 : decode jdk_52_method_16_code 56 = .ok (.areturn, 1) := by decide +kernel
theorem d5_57 : decode jdk_52_method_16_code 57 = .ok (.aload_n 3, 1) := by decide +kernel
theorem d5_58 : decode jdk_52_method_16_code 58 = .ok (.areturn, 1) := by decide +kernel
theorem pf5 : plainFor (⟨"java/lang/StringUTF16", "compress", "([CII)[B"⟩ : MethodName) = true := by first | exact plainFor_of_name (by first | (simp [plainName, overriddenIn]; done) | decide +kernel) | decide +kernel
theorem ef_comp3 (m : MethodId) (z0 : Addr) (z1 : Int32) (z2 : Int32) : entryFrame m #[(.ref z0), (.int z1), (.int z2)] 6 = mkF m 0 #[.val (.ref z0), .val (.int z1), .val (.int z2), .unset, .unset, .unset] [] := by first | rfl | (simp [entryFrame, mkF, argsToLocals, Value.category, *]; done) | rfl
set_option maxRecDepth 65536 in
set_option maxHeartbeats 40000000 in
theorem rm_comp3 {l : Launch} {Z : State} {a0 : Array Value} {n0 : Nat} (G : Gl Z a0 n0) {h0 : Heap} (O : Old Z n0 h0) (a : Addr) (cs : List Int32) (A : Ar Z h0 a .char (cs.map Value.int)) (hr : L1 cs) (hcap : cs.length ≤ 3) :
    Ct [] l Z n0 (⟨"java/lang/StringUTF16", "compress", "([CII)[B"⟩ : MethodName) jdk_52_method_16_code 6 (some (.array .byte)) ({ frames := 1, cells := 1, slots := 3, locals := 18 } : Room) #[(.ref a), (.int (0 : Int32)), (.int (Int32.ofNat cs.length))] h0 (fun v h => Keep h0 h [] ∧ ∃ t, v = some (.ref t) ∧ h0.size ≤ t ∧ Ar Z h t .byte (own_bs cs)) := by
  refine Ct.intro pf5 ?_
  intro p e s m below meth c C
  refine AtW.cast ?_ (ef_comp3 m a (0 : Int32) (Int32.ofNat cs.length))
  have hl : cs.length < 2 ^ 31 := by omega
  refine w_iloadN (q := 1) C rfl d5_0 rfl ?_
  refine w_newArr (q := 3) (cap := 3) (cells' := 1) (slots' := 3) C (G.1 _ (List.mem_of_getElem? (i := 23) rfl)) rfl (ofNat_neg hl) (by rw [ofNat_nat hl]; exact hcap) (by decide) rfl rfl (by decide) (by decide) d5_1 rfl ?_
  intro h18 t g_t Eh18 V_t
  replace V_t : Ar Z h18 t .byte (List.replicate cs.length (Value.int (0 : Int32))) := by rw [ofNat_nat hl] at V_t; exact V_t
  have hge : n0 ≤ t := by rw [g_t]; exact Old_le O
  have hg0 : h0.size ≤ t := Nat.le_of_eq g_t.symm
  have K1 : Keep h0 h18 [] := Keep.of_ext Eh18
  replace O := Old_k0 O K1
  refine w_astoreN (q := 4) (L' := #[.val (.ref a), .val (.int (0 : Int32)), .val (.int (Int32.ofNat cs.length)), .val (.ref t), .unset, .unset]) C rfl rfl d5_3 rfl ?_
  refine w_aloadN (q := 5) C rfl rfl d5_4 rfl ?_
  refine w_iloadN (q := 6) C rfl d5_5 rfl ?_
  refine w_aloadN (q := 7) C rfl rfl d5_6 rfl ?_
  refine w_iconst (q := 8) (v := (0 : Int32)) C (by rfl) d5_7 rfl ?_
  refine w_iloadN (q := 9) C rfl d5_8 rfl ?_
  refine w_callS (q := 12) (argsL := [(.ref a), (.int (0 : Int32)), (.ref t), (.int (0 : Int32)), (.int (Int32.ofNat cs.length))]) (S := []) (W := 0) (cells' := 1) (slots' := 3) C (G.1 _ (List.mem_of_getElem? (i := 24) rfl)) (G.1 _ (List.mem_of_getElem? (i := 25) rfl)) (G.1 _ (List.mem_of_getElem? (i := 21) rfl)) (G.1 _ (List.mem_of_getElem? (i := 26) rfl)) (by decide) (rm_comp5 G O a cs t (Ar_k0 A K1) hr V_t (Nat.ne_of_lt (by rw [g_t]; exact A.lt)) hge) rfl (lenOf pd_6 rfl) rfl (by decide) (own_leb rfl) (by decide) rfl rfl (by decide) (by decide) d5_9 rfl ?_
  rintro _ h19 ⟨Kh19, rfl, B2⟩
  show AtW p l e _ s m _ below meth c n0 _ h19 1 3 (mkF m 12 #[.val (.ref a), .val (.int (0 : Int32)), .val (.int (Int32.ofNat cs.length)), .val (.ref t), .unset, .unset] [(.int (Int32.ofNat cs.length))])
  refine w_istore (q := 14) (L' := #[.val (.ref a), .val (.int (0 : Int32)), .val (.int (Int32.ofNat cs.length)), .val (.ref t), .val (.int (Int32.ofNat cs.length)), .unset]) C rfl d5_12 rfl ?_
  refine w_iload (q := 16) C rfl d5_14 rfl ?_
  refine w_iloadN (q := 17) C rfl d5_16 rfl ?_
  refine w_icmp_eq_t (q := 57) C d5_17 (by decide) (by decide) rfl ?_
  refine w_aloadN (q := 58) C rfl rfl d5_57 rfl ?_
  exact w_retA C rfl rfl rfl d5_58 (by decide) (by decide) ⟨own_K1 K1 Kh19 hg0, t, rfl, hg0, B2⟩
theorem d7_0 : decode jdk_52_method_15_code 0 = .ok (.iload_n 1, 1) := by decide +kernel
theorem d7_1 : decode jdk_52_method_15_code 1 = .ok (.aload_n 0, 1) := by decide +kernel
theorem d7_2 : decode jdk_52_method_15_code 2 = .ok (.arraylength, 1) := by decide +kernel
theorem d7_3 : decode jdk_52_method_15_code 3 = .ok (.isub, 1) := by decide +kernel
theorem d7_4 : decode jdk_52_method_15_code 4 = .ok (.bipush 31, 2) := by decide +kernel
theorem d7_6 : decode jdk_52_method_15_code 6 = .ok (.iushr, 1) := by decide +kernel
theorem d7_7 : decode jdk_52_method_15_code 7 = .ok (.i2b, 1) := by decide +kernel
theorem d7_8 : decode jdk_52_method_15_code 8 = .ok (.ireturn, 1) := by decide +kernel
theorem pf7 : plainFor (⟨"java/lang/StringUTF16", "coderFromArrayLen", "([BI)B"⟩ : MethodName) = true := by first | exact plainFor_of_name (by first | (simp [plainName, overriddenIn]; done) | decide +kernel) | decide +kernel
theorem ef_codL (m : MethodId) (z0 : Addr) (z1 : Int32) : entryFrame m #[(.ref z0), (.int z1)] 2 = mkF m 0 #[.val (.ref z0), .val (.int z1)] [] := by first | rfl | (simp [entryFrame, mkF, argsToLocals, Value.category, *]; done) | rfl
set_option maxRecDepth 65536 in
set_option maxHeartbeats 40000000 in
theorem rm_codL {l : Launch} {Z : State} {a0 : Array Value} {n0 : Nat} (G : Gl Z a0 n0) {h0 : Heap} (O : Old Z n0 h0) (t : Addr) (cs : List Int32) (A : Ar Z h0 t .byte (own_bs cs)) :
    Ct [] l Z n0 (⟨"java/lang/StringUTF16", "coderFromArrayLen", "([BI)B"⟩ : MethodName) jdk_52_method_15_code 2 (some .byte) ({ frames := 0, cells := 0, slots := 0, locals := 0 } : Room) #[(.ref t), (.int (Int32.ofNat cs.length))] h0 (fun v h => h = h0 ∧ v = some (.int 0)) := by
  refine Ct.intro pf7 ?_
  intro p e s m below meth c C
  refine AtW.cast ?_ (ef_codL m t (Int32.ofNat cs.length))
  refine w_iloadN (q := 1) C rfl d7_0 rfl ?_
  refine w_aloadN (q := 2) C rfl rfl d7_1 rfl ?_
  refine w_len (q := 3) (z := (Int32.ofNat cs.length)) C A (by rw [own_bs_len]) d7_2 rfl ?_
  refine w_isub (q := 4) C rfl d7_3 rfl ?_
  rw [show ((Int32.ofNat cs.length) - (Int32.ofNat cs.length)) = (0 : Int32) from Int32.sub_self _]
  refine w_bipush (q := 6) (v := (31 : Int32)) C (by rfl) d7_4 rfl ?_
  refine w_iushr (q := 7) (z := (0 : Int32)) C (by decide) d7_6 rfl ?_
  refine w_i2b (q := 8) (z := (0 : Int32)) C (by decide) d7_7 rfl ?_
  exact w_retZ (z := (0 : Int32)) C (t := .byte) rfl (by simp) (by decide) d7_8 (by decide) (by decide) ⟨rfl, rfl⟩
theorem d3_0 : decode jdk_42_method_149_code 0 = .ok (.aload_n 0, 1) := by decide +kernel
theorem d3_1 : decode jdk_42_method_149_code 1 = .ok (.invokespecial 1, 3) := by decide +kernel
theorem d3_4 : decode jdk_42_method_149_code 4 = .ok (.iload_n 3, 1) := by decide +kernel
theorem d3_5 : decode jdk_42_method_149_code 5 = .ok (.ifCond .ne 22, 3) := by decide +kernel
theorem d3_8 : decode jdk_42_method_149_code 8 = .ok (.aload_n 0, 1) := by decide +kernel
theorem d3_9 : decode jdk_42_method_149_code 9 = .ok (.ldc 7, 2) := by decide +kernel
theorem d3_11 : decode jdk_42_method_149_code 11 = .ok (.getfield 9, 3) := by decide +kernel
theorem d3_14 : decode jdk_42_method_149_code 14 = .ok (.putfield 9, 3) := by decide +kernel
theorem d3_17 : decode jdk_42_method_149_code 17 = .ok (.aload_n 0, 1) := by decide +kernel
theorem d3_18 : decode jdk_42_method_149_code 18 = .ok (.ldc 7, 2) := by decide +kernel
theorem d3_20 : decode jdk_42_method_149_code 20 = .ok (.getfield 15, 3) := by decide +kernel
theorem d3_23 : decode jdk_42_method_149_code 23 = .ok (.putfield 15, 3) := by decide +kernel
theorem d3_26 : decode jdk_42_method_149_code 26 = .ok (.return_, 1) := by decide +kernel
theorem d3_27 : decode jdk_42_method_149_code 27 = .ok (.getstatic 38, 3) := by decide +kernel
theorem d3_30 : decode jdk_42_method_149_code 30 = .ok (.ifCond .eq 28, 3) := by decide +kernel
theorem d3_33 : decode jdk_42_method_149_code 33 = .ok (.aload_n 1, 1) := by decide +kernel
theorem d3_34 : decode jdk_42_method_149_code 34 = .ok (.iload_n 2, 1) := by decide +kernel
theorem d3_35 : decode jdk_42_method_149_code 35 = .ok (.iload_n 3, 1) := by decide +kernel
theorem d3_36 : decode jdk_42_method_149_code 36 = .ok (.invokestatic 177, 3) := by decide +kernel
theorem d3_39 : decode jdk_42_method_149_code 39 = .ok (.astore 5, 2) := by decide +kernel
theorem d3_41 : decode jdk_42_method_149_code 41 = .ok (.aload_n 0, 1) := by decide +kernel
theorem d3_42 : decode jdk_42_method_149_code 42 = .ok (.aload 5, 2) := by decide +kernel
theorem d3_44 : decode jdk_42_method_149_code 44 = .ok (.iload_n 3, 1) := by decide +kernel
theorem d3_45 : decode jdk_42_method_149_code 45 = .ok (.invokestatic 47, 3) := by decide +kernel
theorem d3_48 : decode jdk_42_method_149_code 48 = .ok (.putfield 15, 3) := by decide +kernel
theorem d3_51 : decode jdk_42_method_149_code 51 = .ok (.aload_n 0, 1) := by decide +kernel
theorem d3_52 : decode jdk_42_method_149_code 52 = .ok (.aload 5, 2) := by decide +kernel
theorem d3_54 : decode jdk_42_method_149_code 54 = .ok (.putfield 9, 3) := by decide +kernel
theorem d3_57 : decode jdk_42_method_149_code 57 = .ok (.return_, 1) := by decide +kernel
theorem d3_58 : decode jdk_42_method_149_code 58 = .ok (.aload_n 0, 1) := by decide +kernel
theorem d3_59 : decode jdk_42_method_149_code 59 = .ok (.iconst 1, 1) := by decide +kernel
theorem d3_60 : decode jdk_42_method_149_code 60 = .ok (.putfield 15, 3) := by decide +kernel
theorem d3_63 : decode jdk_42_method_149_code 63 = .ok (.aload_n 0, 1) := by decide +kernel
theorem d3_64 : decode jdk_42_method_149_code 64 = .ok (.aload_n 1, 1) := by decide +kernel
theorem d3_65 : decode jdk_42_method_149_code 65 = .ok (.iload_n 2, 1) := by decide +kernel
theorem d3_66 : decode jdk_42_method_149_code 66 = .ok (.iload_n 3, 1) := by decide +kernel
theorem d3_67 : decode jdk_42_method_149_code 67 = .ok (.invokestatic 180, 3) := by decide +kernel
theorem d3_70 : decode jdk_42_method_149_code 70 = .ok (.putfield 9, 3) := by decide +kernel
theorem d3_73 : decode jdk_42_method_149_code 73 = .ok (.return_, 1) := by decide +kernel
theorem pf3 : plainFor (⟨"java/lang/String", "<init>", "([CIILjava/lang/Void;)V"⟩ : MethodName) = true := by first | exact plainFor_of_name (by first | (simp [plainName, overriddenIn]; done) | decide +kernel) | decide +kernel
theorem ef_strinit4 (m : MethodId) (z0 : Addr) (z1 : Addr) (z2 : Int32) (z3 : Int32) : entryFrame m #[(.ref z0), (.ref z1), (.int z2), (.int z3), .null] 6 = mkF m 0 #[.val (.ref z0), .val (.ref z1), .val (.int z2), .val (.int z3), .val .null, .unset] [] := by first | rfl | (simp [entryFrame, mkF, argsToLocals, Value.category, *]; done) | rfl
set_option maxRecDepth 65536 in
set_option maxHeartbeats 40000000 in
theorem rm_strinit4 {l : Launch} {Z : State} {a0 : Array Value} {n0 : Nat} (G : Gl Z a0 n0) {h0 : Heap} (O : Old Z n0 h0) (a : Addr) (b : Addr) (cs : List Int32) (E : Exa Z h0 a "java/lang/String") (FV : Fld Z h0 a "java/lang/String" "value" "[B" .null) (FC : Fld Z h0 a "java/lang/String" "coder" "B" (.int (0 : Int32))) (hge : n0 ≤ a) (A : Ar Z h0 b .char (cs.map Value.int)) (hr : L1 cs) (hcap : cs.length ≤ 3) (h1 : cs.length ≠ 0) :
    Ct [] l Z n0 (⟨"java/lang/String", "<init>", "([CIILjava/lang/Void;)V"⟩ : MethodName) jdk_42_method_149_code 6 none ({ frames := 2, cells := 1, slots := 3, locals := 35 } : Room) #[(.ref a), (.ref b), (.int (0 : Int32)), (.int (Int32.ofNat cs.length)), .null] h0 (fun v h => Keep h0 h [a] ∧ v = none ∧ Str Z h a cs) := by
  refine Ct.intro pf3 ?_
  intro p e s m below meth c C
  refine AtW.cast ?_ (ef_strinit4 m a b (0 : Int32) (Int32.ofNat cs.length))
  obtain ⟨zc, SC, hzc⟩ := G.cs
  refine w_aloadN (q := 1) C rfl rfl d3_0 rfl ?_
  refine w_initO (q := 4) (W := 0) C (G.1 _ (List.mem_of_getElem? (i := 15) rfl)) (G.1 _ (List.mem_of_getElem? (i := 16) rfl)) (G.1 _ (List.mem_of_getElem? (i := 17) rfl)) rfl (by decide) (own_leb rfl) (by decide) d3_1 rfl ?_
  refine w_iloadN (q := 5) C rfl d3_4 rfl ?_
  refine w_if_ne_t (q := 27) C d3_5 (by decide) (by decide) (fun q => h1 ((own_neq (n := 0) (by omega) (by omega)).mp q)) ?_
  refine w_getS (q := 30) (host := "") C (Or.inl (G.1 _ (List.mem_of_getElem? (i := 18) rfl))) Via.refl (SC.ext O.2) d3_27 rfl ?_
  refine w_if_eq_f (q := 33) C d3_30 rfl hzc ?_
  refine w_aloadN (q := 34) C rfl rfl d3_33 rfl ?_
  refine w_iloadN (q := 35) C rfl d3_34 rfl ?_
  refine w_iloadN (q := 36) C rfl d3_35 rfl ?_
  have A_lt := E.lt
  refine w_callS (q := 39) (argsL := [(.ref b), (.int (0 : Int32)), (.int (Int32.ofNat cs.length))]) (S := []) (W := 0) (cells' := 1) (slots' := 3) C (G.1 _ (List.mem_of_getElem? (i := 19) rfl)) (G.1 _ (List.mem_of_getElem? (i := 20) rfl)) (G.1 _ (List.mem_of_getElem? (i := 21) rfl)) (G.1 _ (List.mem_of_getElem? (i := 22) rfl)) (by decide) (rm_comp3 G O b cs A hr hcap) rfl (lenOf pd_5 rfl) rfl (by decide) (own_leb rfl) (by decide) rfl rfl (by decide) (by decide) d3_36 rfl ?_
  rintro _ h20 ⟨Kh20, t, rfl, hg, B⟩
  show AtW p l e _ s m _ below meth c n0 _ h20 1 3 (mkF m 39 #[.val (.ref a), .val (.ref b), .val (.int (0 : Int32)), .val (.int (Int32.ofNat cs.length)), .val .null, .unset] [(.ref t)])
  replace O := Old_k0 O Kh20
  replace E := Exa_k0 E Kh20
  replace FV := Fld_k0 FV Kh20
  replace FC := Fld_k0 FC Kh20
  have hne : t ≠ a := Ne.symm (Nat.ne_of_lt (Nat.lt_of_lt_of_le A_lt hg))
  refine w_astore (q := 41) (L' := #[.val (.ref a), .val (.ref b), .val (.int (0 : Int32)), .val (.int (Int32.ofNat cs.length)), .val .null, .val (.ref t)]) C rfl rfl d3_39 rfl ?_
  refine w_aloadN (q := 42) C rfl rfl d3_41 rfl ?_
  refine w_aload (q := 44) C rfl rfl d3_42 rfl ?_
  refine w_iloadN (q := 45) C rfl d3_44 rfl ?_
  refine w_callS (q := 48) (argsL := [(.ref t), (.int (Int32.ofNat cs.length))]) (S := [(.ref a)]) (W := 1) (cells' := 1) (slots' := 3) C (G.1 _ (List.mem_of_getElem? (i := 27) rfl)) (G.1 _ (List.mem_of_getElem? (i := 28) rfl)) (G.1 _ (List.mem_of_getElem? (i := 21) rfl)) (G.1 _ (List.mem_of_getElem? (i := 29) rfl)) (by decide) (rm_codL G O t cs B) rfl (lenOf pd_7 rfl) rfl (by decide) (own_leb rfl) (by decide) rfl rfl (by decide) (by decide) d3_45 rfl ?_
  rintro _ h21 ⟨eh22, rfl⟩
  rw [eh22]
  show AtW p l e _ s m _ below meth c n0 _ h20 1 3 (mkF m 48 #[.val (.ref a), .val (.ref b), .val (.int (0 : Int32)), .val (.int (Int32.ofNat cs.length)), .val .null, .val (.ref t)] [(.int (0 : Int32)), (.ref a)])
  refine w_putF (q := 51) (host := "") (v' := (.int (0 : Int32))) C (G.1 _ (List.mem_of_getElem? (i := 30) rfl)) Via.refl FC E (Or.inr ⟨(G.1 _ (List.mem_of_getElem? (i := 31) rfl)), rfl, rfl⟩) (G.1 _ (List.mem_of_getElem? (i := 6) rfl)) (ty := .byte) (by decide) rfl rfl hge d3_48 rfl ?_
  intro h23 Wh23
  have K2 : Keep h0 h23 [a] := ((Keep.refl h0 [a]).trans Kh20 (all0 (P := fun x => x ∈ [a] ∨ h0.size ≤ x))).wr Wh23 (Or.inl (List.mem_cons_self ..))
  replace FC := FC.same Wh23
  replace FV := FV.other Wh23 (Or.inr (slot_ne (Or.inr (G.1 _ (List.mem_of_getElem? (i := 33) rfl))) (Or.inr (G.1 _ (List.mem_of_getElem? (i := 31) rfl))) (by decide) (t := .array .byte) (t' := .byte) (by decide) (by decide)))
  replace E := E.wr Wh23
  replace B := B.other Wh23 hne
  refine w_aloadN (q := 52) C rfl rfl d3_51 rfl ?_
  refine w_aload (q := 54) C rfl rfl d3_52 rfl ?_
  refine w_putF (q := 57) (host := "") (v' := (.ref t)) C (G.1 _ (List.mem_of_getElem? (i := 32) rfl)) Via.refl FV E (Or.inr ⟨(G.1 _ (List.mem_of_getElem? (i := 33) rfl)), rfl, rfl⟩) (G.1 _ (List.mem_of_getElem? (i := 6) rfl)) (ty := (.array .byte)) (by decide) rfl rfl hge d3_54 rfl ?_
  intro h24 Wh24
  replace FV := FV.same Wh24
  replace FC := FC.other Wh24 (Or.inr (slot_ne (Or.inr (G.1 _ (List.mem_of_getElem? (i := 31) rfl))) (Or.inr (G.1 _ (List.mem_of_getElem? (i := 33) rfl))) (by decide) (t := .byte) (t' := .array .byte) (by decide) (by decide)))
  replace E := E.wr Wh24
  replace B := B.other Wh24 hne
  exact w_retV C rfl d3_57 (by decide) (by decide) ⟨K2.wr Wh24 (Or.inl (List.mem_cons_self ..)), rfl, E, hr, t, FC, FV, B⟩
theorem d2_0 : decode jdk_42_method_3_code 0 = .ok (.aload_n 0, 1) := by decide +kernel
theorem d2_1 : decode jdk_42_method_3_code 1 = .ok (.aload_n 1, 1) := by decide +kernel
theorem d2_2 : decode jdk_42_method_3_code 2 = .ok (.iconst 0, 1) := by decide +kernel
theorem d2_3 : decode jdk_42_method_3_code 3 = .ok (.aload_n 1, 1) := by decide +kernel
theorem d2_4 : decode jdk_42_method_3_code 4 = .ok (.arraylength, 1) := by decide +kernel
theorem d2_5 : decode jdk_42_method_3_code 5 = .ok (.aconst_null, 1) := by decide +kernel
theorem d2_6 : decode jdk_42_method_3_code 6 = .ok (.invokespecial 27, 3) := by decide +kernel
theorem d2_9 : decode jdk_42_method_3_code 9 = .ok (.return_, 1) := by decide +kernel
theorem pf2 : plainFor (⟨"java/lang/String", "<init>", "([C)V"⟩ : MethodName) = true := by first | exact plainFor_of_name (by first | (simp [plainName, overriddenIn]; done) | decide +kernel) | decide +kernel
theorem ef_strinit (m : MethodId) (z0 : Addr) (z1 : Addr) : entryFrame m #[(.ref z0), (.ref z1)] 2 = mkF m 0 #[.val (.ref z0), .val (.ref z1)] [] := by first | rfl | (simp [entryFrame, mkF, argsToLocals, Value.category, *]; done) | rfl
set_option maxRecDepth 65536 in
set_option maxHeartbeats 40000000 in
theorem rm_strinit {l : Launch} {Z : State} {a0 : Array Value} {n0 : Nat} (G : Gl Z a0 n0) {h0 : Heap} (O : Old Z n0 h0) (a : Addr) (b : Addr) (cs : List Int32) (E : Exa Z h0 a "java/lang/String") (FV : Fld Z h0 a "java/lang/String" "value" "[B" .null) (FC : Fld Z h0 a "java/lang/String" "coder" "B" (.int (0 : Int32))) (hge : n0 ≤ a) (A : Ar Z h0 b .char (cs.map Value.int)) (hr : L1 cs) (hcap : cs.length ≤ 3) (h1 : cs.length ≠ 0) :
    Ct [] l Z n0 (⟨"java/lang/String", "<init>", "([C)V"⟩ : MethodName) jdk_42_method_3_code 2 none ({ frames := 3, cells := 1, slots := 3, locals := 52 } : Room) #[(.ref a), (.ref b)] h0 (fun v h => Keep h0 h [a] ∧ v = none ∧ Str Z h a cs) := by
  refine Ct.intro pf2 ?_
  intro p e s m below meth c C
  refine AtW.cast ?_ (ef_strinit m a b)
  refine w_aloadN (q := 1) C rfl rfl d2_0 rfl ?_
  refine w_aloadN (q := 2) C rfl rfl d2_1 rfl ?_
  refine w_iconst (q := 3) (v := (0 : Int32)) C (by rfl) d2_2 rfl ?_
  refine w_aloadN (q := 4) C rfl rfl d2_3 rfl ?_
  refine w_len (q := 5) (z := (Int32.ofNat cs.length)) C A (by rw [List.length_map]) d2_4 rfl ?_
  refine w_aconst_null (q := 6) C d2_5 rfl ?_
  refine w_callI (q := 9) (argsL := [(.ref b), (.int (0 : Int32)), (.int (Int32.ofNat cs.length)), .null]) (S := []) (W := 0) (cells' := 1) (slots' := 3) (a := a) C rfl (G.1 _ (List.mem_of_getElem? (i := 11) rfl)) (G.1 _ (List.mem_of_getElem? (i := 12) rfl)) (G.1 _ (List.mem_of_getElem? (i := 7) rfl)) (G.1 _ (List.mem_of_getElem? (i := 14) rfl)) (by decide) (rm_strinit4 G O a b cs E FV FC hge A hr hcap h1) rfl (lenOf pd_3 rfl) rfl (by decide) (own_leb rfl) (by decide) rfl rfl (by decide) (by decide) d2_6 rfl ?_
  rintro _ h25 ⟨Kh25, rfl, S⟩
  show AtW p l e _ s m _ below meth c n0 _ h25 1 3 (mkF m 9 #[.val (.ref a), .val (.ref b)] [])
  exact w_retV C rfl d2_9 (by decide) (by decide) ⟨Kh25, rfl, S⟩
theorem d26_0 : decode jdk_42_method_66_code 0 = .ok (.aload_n 0, 1) := by decide +kernel
theorem d26_1 : decode jdk_42_method_66_code 1 = .ok (.aload_n 1, 1) := by decide +kernel
theorem d26_2 : decode jdk_42_method_66_code 2 = .ok (.if_acmp .ne 5, 3) := by decide +kernel
theorem d26_5 : decode jdk_42_method_66_code 5 = .ok (.iconst 1, 1) := by decide +kernel
theorem d26_6 : decode jdk_42_method_66_code 6 = .ok (.ireturn, 1) := by decide +kernel
theorem d26_7 : decode jdk_42_method_66_code 7 = .ok (.aload_n 1, 1) := by decide +kernel
theorem d26_8 : decode jdk_42_method_66_code 8 = .ok (.instanceof 10, 3) := by decide +kernel
theorem d26_11 : decode jdk_42_method_66_code 11 = .ok (.ifCond .eq 43, 3) := by decide +kernel
theorem d26_14 : decode jdk_42_method_66_code 14 = .ok (.aload_n 1, 1) := by decide +kernel
theorem d26_15 : decode jdk_42_method_66_code 15 = .ok (.checkcast 10, 3) := by decide +kernel
theorem d26_18 : decode jdk_42_method_66_code 18 = .ok (.astore_n 2, 1) := by decide +kernel
theorem d26_19 : decode jdk_42_method_66_code 19 = .ok (.getstatic 38, 3) := by decide +kernel
theorem d26_22 : decode jdk_42_method_66_code 22 = .ok (.ifCond .eq 14, 3) := by decide +kernel
theorem d26_25 : decode jdk_42_method_66_code 25 = .ok (.aload_n 0, 1) := by decide +kernel
theorem d26_26 : decode jdk_42_method_66_code 26 = .ok (.getfield 15, 3) := by decide +kernel
theorem d26_29 : decode jdk_42_method_66_code 29 = .ok (.aload_n 2, 1) := by decide +kernel
theorem d26_30 : decode jdk_42_method_66_code 30 = .ok (.getfield 15, 3) := by decide +kernel
theorem d26_33 : decode jdk_42_method_66_code 33 = .ok (.if_icmp .ne 21, 3) := by decide +kernel
theorem d26_36 : decode jdk_42_method_66_code 36 = .ok (.aload_n 0, 1) := by decide +kernel
theorem d26_37 : decode jdk_42_method_66_code 37 = .ok (.getfield 9, 3) := by decide +kernel
theorem d26_40 : decode jdk_42_method_66_code 40 = .ok (.aload_n 2, 1) := by decide +kernel
theorem d26_41 : decode jdk_42_method_66_code 41 = .ok (.getfield 9, 3) := by decide +kernel
theorem d26_44 : decode jdk_42_method_66_code 44 = .ok (.invokestatic 541, 3) := by decide +kernel
theorem d26_47 : decode jdk_42_method_66_code 47 = .ok (.ifCond .eq 7, 3) := by decide +kernel
theorem d26_50 : decode jdk_42_method_66_code 50 = .ok (.iconst 1, 1) := by decide +kernel
theorem d26_51 : decode jdk_42_method_66_code 51 = .ok (.goto 4, 3) := by decide +kernel
theorem d26_54 : decode jdk_42_method_66_code 54 = .ok (.iconst 0, 1) := by decide +kernel
theorem d26_55 : decode jdk_42_method_66_code 55 = .ok (.ireturn, 1) := by decide +kernel
theorem pf26 : plainFor (⟨"java/lang/String", "equals", "(Ljava/lang/Object;)Z"⟩ : MethodName) = true := by first | exact plainFor_of_name (by first | (simp [plainName, overriddenIn]; done) | decide +kernel) | decide +kernel
theorem ef_eqSame (m : MethodId) (z0 : Addr) (z1 : Addr) : entryFrame m #[(.ref z0), (.ref z1)] 3 = mkF m 0 #[.val (.ref z0), .val (.ref z1), .unset] [] := by first | rfl | (simp [entryFrame, mkF, argsToLocals, Value.category, *]; done) | rfl
set_option maxRecDepth 65536 in
set_option maxHeartbeats 40000000 in
theorem rm_eqSame {l : Launch} {Z : State} {a0 : Array Value} {n0 : Nat} (G : Gl Z a0 n0) {h0 : Heap} (O : Old Z n0 h0) (a : Addr) :
    Ct [] l Z n0 (⟨"java/lang/String", "equals", "(Ljava/lang/Object;)Z"⟩ : MethodName) jdk_42_method_66_code 3 (some .boolean) ({ frames := 0, cells := 0, slots := 0, locals := 0 } : Room) #[(.ref a), (.ref a)] h0 (fun v h => h = h0 ∧ v = some (.int 1)) := by
  refine Ct.intro pf26 ?_
  intro p e s m below meth c C
  refine AtW.cast ?_ (ef_eqSame m a a)
  refine w_aloadN (q := 1) C rfl rfl d26_0 rfl ?_
  refine w_aloadN (q := 2) C rfl rfl d26_1 rfl ?_
  refine w_acmp_f (q := 5) C d26_2 rfl rfl (same := true) (decide_eq_true rfl) rfl (by decide) rfl ?_
  refine w_iconst (q := 6) (v := (1 : Int32)) C (by rfl) d26_5 rfl ?_
  exact w_retZ (z := (1 : Int32)) C (t := .boolean) rfl (by simp) (by decide) d26_6 (by decide) (by decide) ⟨rfl, rfl⟩
theorem d21_0 : decode prog_8_method_1_code 0 = .ok (.aload_n 0, 1) := by decide +kernel
theorem d21_1 : decode prog_8_method_1_code 1 = .ok (.invokespecial 1, 3) := by decide +kernel
theorem d21_4 : decode prog_8_method_1_code 4 = .ok (.aload_n 0, 1) := by decide +kernel
theorem d21_5 : decode prog_8_method_1_code 5 = .ok (.aload_n 1, 1) := by decide +kernel
theorem d21_6 : decode prog_8_method_1_code 6 = .ok (.putfield 7, 3) := by decide +kernel
theorem d21_9 : decode prog_8_method_1_code 9 = .ok (.aload_n 0, 1) := by decide +kernel
theorem d21_10 : decode prog_8_method_1_code 10 = .ok (.lload_n 2, 1) := by decide +kernel
theorem d21_11 : decode prog_8_method_1_code 11 = .ok (.putfield 13, 3) := by decide +kernel
theorem d21_14 : decode prog_8_method_1_code 14 = .ok (.aload_n 0, 1) := by decide +kernel
theorem d21_15 : decode prog_8_method_1_code 15 = .ok (.aload 4, 2) := by decide +kernel
theorem d21_17 : decode prog_8_method_1_code 17 = .ok (.putfield 17, 3) := by decide +kernel
theorem d21_20 : decode prog_8_method_1_code 20 = .ok (.aload_n 0, 1) := by decide +kernel
theorem d21_21 : decode prog_8_method_1_code 21 = .ok (.aload 5, 2) := by decide +kernel
theorem d21_23 : decode prog_8_method_1_code 23 = .ok (.putfield 21, 3) := by decide +kernel
theorem d21_26 : decode prog_8_method_1_code 26 = .ok (.aload_n 0, 1) := by decide +kernel
theorem d21_27 : decode prog_8_method_1_code 27 = .ok (.aload 6, 2) := by decide +kernel
theorem d21_29 : decode prog_8_method_1_code 29 = .ok (.putfield 24, 3) := by decide +kernel
theorem d21_32 : decode prog_8_method_1_code 32 = .ok (.return_, 1) := by decide +kernel
theorem pf21 : plainFor (⟨"com/example/libhilo/libhilo/SequenceSpec", "<init>", "(Ljava/lang/String;JLjava/lang/Long;Ljava/lang/Long;Ljava/lang/Long;)V"⟩ : MethodName) = true := by first | exact plainFor_of_name (by first | (simp [plainName, overriddenIn]; done) | decide +kernel) | decide +kernel
theorem ef_spec (m : MethodId) (z0 : Addr) (z1 : Addr) (z2 : Int64) : entryFrame m #[(.ref z0), (.ref z1), (.long z2), .null, .null, .null] 7 = mkF m 0 #[.val (.ref z0), .val (.ref z1), .val (.long z2), .second, .val .null, .val .null, .val .null] [] := by first | (simp [entryFrame, mkF, argsToLocals, Value.category, *]; done) | rfl
set_option maxRecDepth 65536 in
set_option maxHeartbeats 40000000 in
theorem rm_spec {l : Launch} {Z : State} {a0 : Array Value} {n0 : Nat} (G : Gl Z a0 n0) {h0 : Heap} (O : Old Z n0 h0) (a : Addr) (nm : Addr) (inc : Int64) (E : Exa Z h0 a "com/example/libhilo/libhilo/SequenceSpec") (F_name : Fld Z h0 a "com/example/libhilo/libhilo/SequenceSpec" "name" "Ljava/lang/String;" .null) (F_increment : Fld Z h0 a "com/example/libhilo/libhilo/SequenceSpec" "increment" "J" (.long (0 : Int64))) (F_start : Fld Z h0 a "com/example/libhilo/libhilo/SequenceSpec" "start" "Ljava/lang/Long;" .null) (F_minimum : Fld Z h0 a "com/example/libhilo/libhilo/SequenceSpec" "minimum" "Ljava/lang/Long;" .null) (F_maximum : Fld Z h0 a "com/example/libhilo/libhilo/SequenceSpec" "maximum" "Ljava/lang/Long;" .null) (hge : n0 ≤ a) :
    Ct [] l Z n0 (⟨"com/example/libhilo/libhilo/SequenceSpec", "<init>", "(Ljava/lang/String;JLjava/lang/Long;Ljava/lang/Long;Ljava/lang/Long;)V"⟩ : MethodName) prog_8_method_1_code 7 none ({ frames := 1, cells := 0, slots := 0, locals := 12 } : Room) #[(.ref a), (.ref nm), (.long inc), .null, .null, .null] h0 (fun v h => Keep h0 h [a] ∧ v = none ∧ Exa Z h a "com/example/libhilo/libhilo/SequenceSpec" ∧ Fld Z h a "com/example/libhilo/libhilo/SequenceSpec" "name" "Ljava/lang/String;" (.ref nm) ∧ Fld Z h a "com/example/libhilo/libhilo/SequenceSpec" "increment" "J" (.long inc) ∧ Fld Z h a "com/example/libhilo/libhilo/SequenceSpec" "start" "Ljava/lang/Long;" .null ∧ Fld Z h a "com/example/libhilo/libhilo/SequenceSpec" "minimum" "Ljava/lang/Long;" .null ∧ Fld Z h a "com/example/libhilo/libhilo/SequenceSpec" "maximum" "Ljava/lang/Long;" .null) := by
  refine Ct.intro pf21 ?_
  intro p e s m below meth c C
  refine AtW.cast ?_ (ef_spec m a nm inc)
  refine w_aloadN (q := 1) C rfl rfl d21_0 rfl ?_
  refine w_initO (q := 4) (W := 0) C (G.1 _ (List.mem_of_getElem? (i := 104) rfl)) (G.1 _ (List.mem_of_getElem? (i := 16) rfl)) (G.1 _ (List.mem_of_getElem? (i := 17) rfl)) rfl (by decide) (own_leb rfl) (by decide) d21_1 rfl ?_
  refine w_aloadN (q := 5) C rfl rfl d21_4 rfl ?_
  refine w_aloadN (q := 6) C rfl rfl d21_5 rfl ?_
  refine w_putF (q := 9) (host := "") (v' := (.ref nm)) C (G.1 _ (List.mem_of_getElem? (i := 105) rfl)) Via.refl F_name E (Or.inr ⟨(G.1 _ (List.mem_of_getElem? (i := 106) rfl)), rfl, rfl⟩) (G.1 _ (List.mem_of_getElem? (i := 100) rfl)) (ty := (.object "java/lang/String")) (by decide) rfl rfl hge d21_6 rfl ?_
  intro h26 Wh26
  replace E := E.wr Wh26
  replace F_name := F_name.same Wh26
  replace F_increment := F_increment.other Wh26 (Or.inr (slot_ne (Or.inr (G.1 _ (List.mem_of_getElem? (i := 108) rfl))) (Or.inr (G.1 _ (List.mem_of_getElem? (i := 106) rfl))) (by decide) (t := .long) (t' := (.object "java/lang/String")) (by decide) (by decide)))
  replace F_start := F_start.other Wh26 (Or.inr (slot_ne (Or.inr (G.1 _ (List.mem_of_getElem? (i := 110) rfl))) (Or.inr (G.1 _ (List.mem_of_getElem? (i := 106) rfl))) (by decide) (t := (.object "java/lang/Long")) (t' := (.object "java/lang/String")) (by decide) (by decide)))
  replace F_minimum := F_minimum.other Wh26 (Or.inr (slot_ne (Or.inr (G.1 _ (List.mem_of_getElem? (i := 112) rfl))) (Or.inr (G.1 _ (List.mem_of_getElem? (i := 106) rfl))) (by decide) (t := (.object "java/lang/Long")) (t' := (.object "java/lang/String")) (by decide) (by decide)))
  replace F_maximum := F_maximum.other Wh26 (Or.inr (slot_ne (Or.inr (G.1 _ (List.mem_of_getElem? (i := 114) rfl))) (Or.inr (G.1 _ (List.mem_of_getElem? (i := 106) rfl))) (by decide) (t := (.object "java/lang/Long")) (t' := (.object "java/lang/String")) (by decide) (by decide)))
  have K27 : Keep h0 h26 [a] := (Keep.refl h0 [a]).wr Wh26 (Or.inl (List.mem_cons_self ..))
  refine w_aloadN (q := 10) C rfl rfl d21_9 rfl ?_
  refine w_lloadN (q := 11) C rfl d21_10 rfl ?_
  refine w_putF (q := 14) (host := "") (v' := (.long inc)) C (G.1 _ (List.mem_of_getElem? (i := 107) rfl)) Via.refl F_increment E (Or.inr ⟨(G.1 _ (List.mem_of_getElem? (i := 108) rfl)), rfl, rfl⟩) (G.1 _ (List.mem_of_getElem? (i := 100) rfl)) (ty := .long) (by decide) rfl rfl hge d21_11 rfl ?_
  intro h28 Wh28
  replace E := E.wr Wh28
  replace F_name := F_name.other Wh28 (Or.inr (slot_ne (Or.inr (G.1 _ (List.mem_of_getElem? (i := 106) rfl))) (Or.inr (G.1 _ (List.mem_of_getElem? (i := 108) rfl))) (by decide) (t := (.object "java/lang/String")) (t' := .long) (by decide) (by decide)))
  replace F_increment := F_increment.same Wh28
  replace F_start := F_start.other Wh28 (Or.inr (slot_ne (Or.inr (G.1 _ (List.mem_of_getElem? (i := 110) rfl))) (Or.inr (G.1 _ (List.mem_of_getElem? (i := 108) rfl))) (by decide) (t := (.object "java/lang/Long")) (t' := .long) (by decide) (by decide)))
  replace F_minimum := F_minimum.other Wh28 (Or.inr (slot_ne (Or.inr (G.1 _ (List.mem_of_getElem? (i := 112) rfl))) (Or.inr (G.1 _ (List.mem_of_getElem? (i := 108) rfl))) (by decide) (t := (.object "java/lang/Long")) (t' := .long) (by decide) (by decide)))
  replace F_maximum := F_maximum.other Wh28 (Or.inr (slot_ne (Or.inr (G.1 _ (List.mem_of_getElem? (i := 114) rfl))) (Or.inr (G.1 _ (List.mem_of_getElem? (i := 108) rfl))) (by decide) (t := (.object "java/lang/Long")) (t' := .long) (by decide) (by decide)))
  have K29 : Keep h0 h28 [a] := K27.wr Wh28 (Or.inl (List.mem_cons_self ..))
  refine w_aloadN (q := 15) C rfl rfl d21_14 rfl ?_
  refine w_aload (q := 17) C rfl rfl d21_15 rfl ?_
  refine w_putF (q := 20) (host := "") (v' := .null) C (G.1 _ (List.mem_of_getElem? (i := 109) rfl)) Via.refl F_start E (Or.inr ⟨(G.1 _ (List.mem_of_getElem? (i := 110) rfl)), rfl, rfl⟩) (G.1 _ (List.mem_of_getElem? (i := 100) rfl)) (ty := (.object "java/lang/Long")) (by decide) rfl rfl hge d21_17 rfl ?_
  intro h30 Wh30
  replace E := E.wr Wh30
  replace F_name := F_name.other Wh30 (Or.inr (slot_ne (Or.inr (G.1 _ (List.mem_of_getElem? (i := 106) rfl))) (Or.inr (G.1 _ (List.mem_of_getElem? (i := 110) rfl))) (by decide) (t := (.object "java/lang/String")) (t' := (.object "java/lang/Long")) (by decide) (by decide)))
  replace F_increment := F_increment.other Wh30 (Or.inr (slot_ne (Or.inr (G.1 _ (List.mem_of_getElem? (i := 108) rfl))) (Or.inr (G.1 _ (List.mem_of_getElem? (i := 110) rfl))) (by decide) (t := .long) (t' := (.object "java/lang/Long")) (by decide) (by decide)))
  replace F_start := F_start.same Wh30
  replace F_minimum := F_minimum.other Wh30 (Or.inr (slot_ne (Or.inr (G.1 _ (List.mem_of_getElem? (i := 112) rfl))) (Or.inr (G.1 _ (List.mem_of_getElem? (i := 110) rfl))) (by decide) (t := (.object "java/lang/Long")) (t' := (.object "java/lang/Long")) (by decide) (by decide)))
  replace F_maximum := F_maximum.other Wh30 (Or.inr (slot_ne (Or.inr (G.1 _ (List.mem_of_getElem? (i := 114) rfl))) (Or.inr (G.1 _ (List.mem_of_getElem? (i := 110) rfl))) (by decide) (t := (.object "java/lang/Long")) (t' := (.object "java/lang/Long")) (by decide) (by decide)))
  have K31 : Keep h0 h30 [a] := K29.wr Wh30 (Or.inl (List.mem_cons_self ..))
  refine w_aloadN (q := 21) C rfl rfl d21_20 rfl ?_
  refine w_aload (q := 23) C rfl rfl d21_21 rfl ?_
  refine w_putF (q := 26) (host := "") (v' := .null) C (G.1 _ (List.mem_of_getElem? (i := 111) rfl)) Via.refl F_minimum E (Or.inr ⟨(G.1 _ (List.mem_of_getElem? (i := 112) rfl)), rfl, rfl⟩) (G.1 _ (List.mem_of_getElem? (i := 100) rfl)) (ty := (.object "java/lang/Long")) (by decide) rfl rfl hge d21_23 rfl ?_
  intro h32 Wh32
  replace E := E.wr Wh32
  replace F_name := F_name.other Wh32 (Or.inr (slot_ne (Or.inr (G.1 _ (List.mem_of_getElem? (i := 106) rfl))) (Or.inr (G.1 _ (List.mem_of_getElem? (i := 112) rfl))) (by decide) (t := (.object "java/lang/String")) (t' := (.object "java/lang/Long")) (by decide) (by decide)))
  replace F_increment := F_increment.other Wh32 (Or.inr (slot_ne (Or.inr (G.1 _ (List.mem_of_getElem? (i := 108) rfl))) (Or.inr (G.1 _ (List.mem_of_getElem? (i := 112) rfl))) (by decide) (t := .long) (t' := (.object "java/lang/Long")) (by decide) (by decide)))
  replace F_start := F_start.other Wh32 (Or.inr (slot_ne (Or.inr (G.1 _ (List.mem_of_getElem? (i := 110) rfl))) (Or.inr (G.1 _ (List.mem_of_getElem? (i := 112) rfl))) (by decide) (t := (.object "java/lang/Long")) (t' := (.object "java/lang/Long")) (by decide) (by decide)))
  replace F_minimum := F_minimum.same Wh32
  replace F_maximum := F_maximum.other Wh32 (Or.inr (slot_ne (Or.inr (G.1 _ (List.mem_of_getElem? (i := 114) rfl))) (Or.inr (G.1 _ (List.mem_of_getElem? (i := 112) rfl))) (by decide) (t := (.object "java/lang/Long")) (t' := (.object "java/lang/Long")) (by decide) (by decide)))
  have K33 : Keep h0 h32 [a] := K31.wr Wh32 (Or.inl (List.mem_cons_self ..))
  refine w_aloadN (q := 27) C rfl rfl d21_26 rfl ?_
  refine w_aload (q := 29) C rfl rfl d21_27 rfl ?_
  refine w_putF (q := 32) (host := "") (v' := .null) C (G.1 _ (List.mem_of_getElem? (i := 113) rfl)) Via.refl F_maximum E (Or.inr ⟨(G.1 _ (List.mem_of_getElem? (i := 114) rfl)), rfl, rfl⟩) (G.1 _ (List.mem_of_getElem? (i := 100) rfl)) (ty := (.object "java/lang/Long")) (by decide) rfl rfl hge d21_29 rfl ?_
  intro h34 Wh34
  replace E := E.wr Wh34
  replace F_name := F_name.other Wh34 (Or.inr (slot_ne (Or.inr (G.1 _ (List.mem_of_getElem? (i := 106) rfl))) (Or.inr (G.1 _ (List.mem_of_getElem? (i := 114) rfl))) (by decide) (t := (.object "java/lang/String")) (t' := (.object "java/lang/Long")) (by decide) (by decide)))
  replace F_increment := F_increment.other Wh34 (Or.inr (slot_ne (Or.inr (G.1 _ (List.mem_of_getElem? (i := 108) rfl))) (Or.inr (G.1 _ (List.mem_of_getElem? (i := 114) rfl))) (by decide) (t := .long) (t' := (.object "java/lang/Long")) (by decide) (by decide)))
  replace F_start := F_start.other Wh34 (Or.inr (slot_ne (Or.inr (G.1 _ (List.mem_of_getElem? (i := 110) rfl))) (Or.inr (G.1 _ (List.mem_of_getElem? (i := 114) rfl))) (by decide) (t := (.object "java/lang/Long")) (t' := (.object "java/lang/Long")) (by decide) (by decide)))
  replace F_minimum := F_minimum.other Wh34 (Or.inr (slot_ne (Or.inr (G.1 _ (List.mem_of_getElem? (i := 112) rfl))) (Or.inr (G.1 _ (List.mem_of_getElem? (i := 114) rfl))) (by decide) (t := (.object "java/lang/Long")) (t' := (.object "java/lang/Long")) (by decide) (by decide)))
  replace F_maximum := F_maximum.same Wh34
  have K35 : Keep h0 h34 [a] := K33.wr Wh34 (Or.inl (List.mem_cons_self ..))
  exact w_retV C rfl d21_32 (by decide) (by decide) ⟨K35, rfl, E, F_name, F_increment, F_start, F_minimum, F_maximum⟩
theorem d10_0 : decode prog_8_method_3_code 0 = .ok (.aload_n 0, 1) := by decide +kernel
theorem d10_1 : decode prog_8_method_3_code 1 = .ok (.ldc 34, 2) := by decide +kernel
theorem d10_3 : decode prog_8_method_3_code 3 = .ok (.invokestatic 35, 3) := by decide +kernel
theorem d10_6 : decode prog_8_method_3_code 6 = .ok (.pop, 1) := by decide +kernel
theorem d10_7 : decode prog_8_method_3_code 7 = .ok (.aload_n 0, 1) := by decide +kernel
theorem d10_8 : decode prog_8_method_3_code 8 = .ok (.invokevirtual 41, 3) := by decide +kernel
theorem d10_11 : decode prog_8_method_3_code 11 = .ok (.ifCond .eq 17, 3) := by decide +kernel
theorem d10_14 : decode prog_8_method_3_code 14 = .ok (.new 47, 3) := by decide +kernel
theorem d10_17 : decode prog_8_method_3_code 17 = .ok (.dup, 1) := by decide +kernel
theorem d10_18 : decode prog_8_method_3_code 18 = .ok (.aload_n 0, 1) := by decide +kernel
theorem d10_24 : decode prog_8_method_3_code 24 = .ok (.invokespecial 53, 3) := by decide +kernel
theorem d10_27 : decode prog_8_method_3_code 27 = .ok (.athrow, 1) := by decide +kernel
theorem d10_28 : decode prog_8_method_3_code 28 = .ok (.return_, 1) := by decide +kernel
theorem pf10 : plainFor (⟨"com/example/libhilo/libhilo/SequenceSpec", "requireValidName", "(Ljava/lang/String;)V"⟩ : MethodName) = true := by first | exact plainFor_of_name (by first | (simp [plainName, overriddenIn]; done) | decide +kernel) | decide +kernel
theorem ef_reqName (m : MethodId) (z0 : Addr) : entryFrame m #[(.ref z0)] 1 = mkF m 0 #[.val (.ref z0)] [] := by first | rfl | (simp [entryFrame, mkF, argsToLocals, Value.category, *]; done) | rfl
set_option maxRecDepth 65536 in
set_option maxHeartbeats 40000000 in
theorem rm_reqName {l : Launch} {Z : State} {a0 : Array Value} {n0 : Nat} (G : Gl Z a0 n0) {h0 : Heap} (O : Old Z n0 h0) (a : Addr) (cs : List Int32) (S : Str Z h0 a cs) (hb : ¬ cs.all own_isws = true) :
    Cs [] l Z ([] : List (String × Nat)) n0 (⟨"com/example/libhilo/libhilo/SequenceSpec", "requireValidName", "(Ljava/lang/String;)V"⟩ : MethodName) prog_8_method_3_code 1 none ({ frames := 5, cells := 2, slots := 20, locals := 68 } : Room) #[(.ref a)] h0 (fun v h => Keep h0 h [] ∧ v = none) := by
  refine Cs.intro pf10 ?_
  intro p e s m below meth c C
  refine AtS.cast ?_ (ef_reqName m a)
  refine s_aloadN (q := 1) C rfl rfl d10_0 rfl ?_
  refine s_ldcO (q := 3) (n := 16) (cells' := 2) (slots' := 20) C G.el G.sa (G.1 _ (List.mem_of_getElem? (i := 47) rfl)) (by decide +kernel) (by decide) rfl rfl (by decide) (by decide) d10_1 rfl ?_
  intro h36 s37 Eh36
  have K1 : Keep h0 h36 [] := Keep.of_ext Eh36
  replace O := Old_k0 O K1
  replace S := Str_k0 S K1
  have E := S.1
  refine s_callS1 (q := 6) (argsL := [(.ref a), (.ref s37)]) (S := []) (W := 0) (cells' := 2) (slots' := 20) C (G.1 _ (List.mem_of_getElem? (i := 50) rfl)) (G.1 _ (List.mem_of_getElem? (i := 51) rfl)) (G.1 _ (List.mem_of_getElem? (i := 52) rfl)) (G.1 _ (List.mem_of_getElem? (i := 53) rfl)) (by decide) (rm_reqNN G O a s37) rfl (lenOf pd_11 rfl) rfl (by decide) (own_leb rfl) (by decide) rfl rfl (by decide) (by decide) (wl := []) (fun _ _ q => by rw [q.1]; exact Keep.refl _ _) all0 d10_3 rfl ?_
  rintro _ h39 ⟨eh40, rfl⟩
  rw [eh40]
  show AtS p l e _ s m _ below meth c Z _ _ n0 _ _ _ h36 2 20 (mkF m 6 #[.val (.ref a)] [(.ref a)])
  refine s_pop (q := 7) C rfl d10_6 rfl ?_
  refine s_aloadN (q := 8) C rfl rfl d10_7 rfl ?_
  refine s_callV1 (q := 11) (argsL := []) (S := []) (W := 0) (cells' := 2) (slots' := 20) (a := a) C E (G.1 _ (List.mem_of_getElem? (i := 54) rfl)) (G.1 _ (List.mem_of_getElem? (i := 55) rfl)) (s_nf (G.1 _ (List.mem_of_getElem? (i := 57) rfl))) (G.1 _ (List.mem_of_getElem? (i := 57) rfl)) (G.1 _ (List.mem_of_getElem? (i := 56) rfl)) (G.1 _ (List.mem_of_getElem? (i := 7) rfl)) (G.1 _ (List.mem_of_getElem? (i := 58) rfl)) (by decide) (rm_isBlank G O a cs S hb) rfl (lenOf pd_12 rfl) rfl (by decide) (own_leb rfl) (by decide) rfl rfl (by decide) (by decide) (wl := []) (fun _ _ q => by rw [q.1]; exact Keep.refl _ _) all0 d10_8 rfl ?_
  rintro _ h41 ⟨eh42, rfl⟩
  rw [eh42]
  show AtS p l e _ s m _ below meth c Z _ _ n0 _ _ _ h36 2 20 (mkF m 11 #[.val (.ref a)] [(.int (0 : Int32))])
  refine s_if_eq_t (q := 28) C d10_11 (by decide) (by decide) (by decide) ?_
  exact s_retV C G.el rfl d10_28 (by decide) (by decide) ⟨K1, rfl⟩
theorem d9_0 : decode prog_8_method_2_code 0 = .ok (.aload_n 0, 1) := by decide +kernel
theorem d9_1 : decode prog_8_method_2_code 1 = .ok (.invokestatic 27, 3) := by decide +kernel
theorem d9_4 : decode prog_8_method_2_code 4 = .ok (.new 8, 3) := by decide +kernel
theorem d9_7 : decode prog_8_method_2_code 7 = .ok (.dup, 1) := by decide +kernel
theorem d9_8 : decode prog_8_method_2_code 8 = .ok (.aload_n 0, 1) := by decide +kernel
theorem d9_9 : decode prog_8_method_2_code 9 = .ok (.lconst 1, 1) := by decide +kernel
theorem d9_10 : decode prog_8_method_2_code 10 = .ok (.aconst_null, 1) := by decide +kernel
theorem d9_11 : decode prog_8_method_2_code 11 = .ok (.aconst_null, 1) := by decide +kernel
theorem d9_12 : decode prog_8_method_2_code 12 = .ok (.aconst_null, 1) := by decide +kernel
theorem d9_13 : decode prog_8_method_2_code 13 = .ok (.invokespecial 31, 3) := by decide +kernel
theorem d9_16 : decode prog_8_method_2_code 16 = .ok (.areturn, 1) := by decide +kernel
theorem pf9 : plainFor (⟨"com/example/libhilo/libhilo/SequenceSpec", "named", "(Ljava/lang/String;)Lcom/example/libhilo/libhilo/SequenceSpec;"⟩ : MethodName) = true := by first | exact plainFor_of_name (by first | (simp [plainName, overriddenIn]; done) | decide +kernel) | decide +kernel
theorem ef_named (m : MethodId) (z0 : Addr) : entryFrame m #[(.ref z0)] 1 = mkF m 0 #[.val (.ref z0)] [] := by first | rfl | (simp [entryFrame, mkF, argsToLocals, Value.category, *]; done) | rfl
set_option maxRecDepth 65536 in
set_option maxHeartbeats 40000000 in
theorem rm_named {l : Launch} {Z : State} {a0 : Array Value} {n0 : Nat} (G : Gl Z a0 n0) {h0 : Heap} (O : Old Z n0 h0) (a : Addr) (cs : List Int32) (S : Str Z h0 a cs) (hb : ¬ cs.all own_isws = true) :
    Cs [] l Z ([] : List (String × Nat)) n0 (⟨"com/example/libhilo/libhilo/SequenceSpec", "named", "(Ljava/lang/String;)Lcom/example/libhilo/libhilo/SequenceSpec;"⟩ : MethodName) prog_8_method_2_code 1 (some (.object "com/example/libhilo/libhilo/SequenceSpec")) ({ frames := 6, cells := 3, slots := 25, locals := 80 } : Room) #[(.ref a)] h0 (fun v h => Keep h0 h [] ∧ ∃ q, v = some (.ref q) ∧ h0.size ≤ q ∧ Exa Z h q "com/example/libhilo/libhilo/SequenceSpec" ∧ Fld Z h q "com/example/libhilo/libhilo/SequenceSpec" "name" "Ljava/lang/String;" (.ref a) ∧ Fld Z h q "com/example/libhilo/libhilo/SequenceSpec" "increment" "J" (.long (1 : Int64)) ∧ Fld Z h q "com/example/libhilo/libhilo/SequenceSpec" "start" "Ljava/lang/Long;" .null ∧ Fld Z h q "com/example/libhilo/libhilo/SequenceSpec" "minimum" "Ljava/lang/Long;" .null ∧ Fld Z h q "com/example/libhilo/libhilo/SequenceSpec" "maximum" "Ljava/lang/Long;" .null) := by
  refine Cs.intro pf9 ?_
  intro p e s m below meth c C
  refine AtS.cast ?_ (ef_named m a)
  refine s_aloadN (q := 1) C rfl rfl d9_0 rfl ?_
  refine s_callS2 (q := 4) (argsL := [(.ref a)]) (S := []) (W := 0) (cells' := 2) (slots' := 20) C G.el (G.1 _ (List.mem_of_getElem? (i := 44) rfl)) (G.1 _ (List.mem_of_getElem? (i := 45) rfl)) (G.1 _ (List.mem_of_getElem? (i := 42) rfl)) (G.1 _ (List.mem_of_getElem? (i := 46) rfl)) (by decide) (rm_reqName G O a cs S hb) rfl (lenOf pd_10 rfl) rfl (by decide) (own_leb rfl) (by decide) rfl rfl (by decide) (by decide) d9_1 rfl ?_
  rintro _ h43 ⟨Kh43, rfl⟩
  show AtS p l e _ s m _ below meth c Z _ _ n0 _ _ _ h43 2 20 (mkF m 4 #[.val (.ref a)] [])
  replace O := Old_k0 O Kh43
  refine s_new (q := 7) (cells' := 3) (slots' := 25) C (G.1 _ (List.mem_of_getElem? (i := 99) rfl)) (G.1 _ (List.mem_of_getElem? (i := 100) rfl)) (G.1 _ (List.mem_of_getElem? (i := 42) rfl)) rfl rfl (by decide) (by decide) d9_4 rfl ?_
  intro h44 q g_q Eh44 A_q D_q
  have F_name_q : Fld Z h44 q "com/example/libhilo/libhilo/SequenceSpec" "name" "Ljava/lang/String;" .null := D_q (Or.inr (G.1 _ (List.mem_of_getElem? (i := 106) rfl))) (ty := (.object "java/lang/String")) (by decide)
  have F_increment_q : Fld Z h44 q "com/example/libhilo/libhilo/SequenceSpec" "increment" "J" (.long (0 : Int64)) := D_q (Or.inr (G.1 _ (List.mem_of_getElem? (i := 108) rfl))) (ty := .long) (by decide)
  have F_start_q : Fld Z h44 q "com/example/libhilo/libhilo/SequenceSpec" "start" "Ljava/lang/Long;" .null := D_q (Or.inr (G.1 _ (List.mem_of_getElem? (i := 110) rfl))) (ty := (.object "java/lang/Long")) (by decide)
  have F_minimum_q : Fld Z h44 q "com/example/libhilo/libhilo/SequenceSpec" "minimum" "Ljava/lang/Long;" .null := D_q (Or.inr (G.1 _ (List.mem_of_getElem? (i := 112) rfl))) (ty := (.object "java/lang/Long")) (by decide)
  have F_maximum_q : Fld Z h44 q "com/example/libhilo/libhilo/SequenceSpec" "maximum" "Ljava/lang/Long;" .null := D_q (Or.inr (G.1 _ (List.mem_of_getElem? (i := 114) rfl))) (ty := (.object "java/lang/Long")) (by decide)
  have ge : n0 ≤ q := by rw [g_q]; exact Old_le O
  have sz : h0.size ≤ q := by rw [g_q]; exact (Kh43).1
  have K2 : Keep h0 h44 [] := Keep.ext (Kh43) Eh44
  have O2 := O.ext Eh44
  refine s_dup (q := 8) C rfl d9_7 rfl ?_
  refine s_aloadN (q := 9) C rfl rfl d9_8 rfl ?_
  refine s_lconst (q := 10) (v := (1 : Int64)) C (by rfl) d9_9 rfl ?_
  refine s_aconst_null (q := 11) C d9_10 rfl ?_
  refine s_aconst_null (q := 12) C d9_11 rfl ?_
  refine s_aconst_null (q := 13) C d9_12 rfl ?_
  refine s_callI1 (q := 16) (argsL := [(.ref a), (.long (1 : Int64)), .null, .null, .null]) (S := [(.ref q)]) (W := 1) (cells' := 3) (slots' := 25) (a := q) C rfl (G.1 _ (List.mem_of_getElem? (i := 101) rfl)) (G.1 _ (List.mem_of_getElem? (i := 102) rfl)) (G.1 _ (List.mem_of_getElem? (i := 42) rfl)) (G.1 _ (List.mem_of_getElem? (i := 103) rfl)) (by decide) (rm_spec G O2 q a (1 : Int64) A_q F_name_q F_increment_q F_start_q F_minimum_q F_maximum_q ge) rfl (lenOf pd_19 rfl) rfl (by decide) (own_leb rfl) (by decide) rfl rfl (by decide) (by decide) (wl := [q]) (fun _ _ q => q.1) (allS (SfOk.exa A_q (by decide)) (all0)) d9_13 rfl ?_
  rintro _ h45 ⟨Kh45, rfl, e0, e1, e2, e3, e4, e5⟩
  show AtS p l e _ s m _ below meth c Z _ _ n0 _ _ _ h45 3 25 (mkF m 16 #[.val (.ref a)] [(.ref q)])
  exact s_retA C G.el rfl rfl rfl d9_16 (by decide) (by decide) ⟨own_K1 K2 Kh45 sz, q, rfl, sz, e0, e1, e2, e3, e4, e5⟩
theorem d30_0 : decode prog_8_method_17_code 0 = .ok (.aload_n 1, 1) := by decide +kernel
theorem d30_1 : decode prog_8_method_17_code 1 = .ok (.ifnull 12, 3) := by decide +kernel
theorem d30_4 : decode prog_8_method_17_code 4 = .ok (.aload_n 1, 1) := by decide +kernel
theorem d30_5 : decode prog_8_method_17_code 5 = .ok (.invokevirtual 131, 3) := by decide +kernel
theorem d30_8 : decode prog_8_method_17_code 8 = .ok (.lstore 6, 2) := by decide +kernel
theorem d30_10 : decode prog_8_method_17_code 10 = .ok (.goto 22, 3) := by decide +kernel
theorem d30_13 : decode prog_8_method_17_code 13 = .ok (.aload_n 0, 1) := by decide +kernel
theorem d30_14 : decode prog_8_method_17_code 14 = .ok (.getfield 13, 3) := by decide +kernel
theorem d30_17 : decode prog_8_method_17_code 17 = .ok (.lconst 0, 1) := by decide +kernel
theorem d30_18 : decode prog_8_method_17_code 18 = .ok (.lcmp, 1) := by decide +kernel
theorem d30_19 : decode prog_8_method_17_code 19 = .ok (.ifCond .le 9, 3) := by decide +kernel
theorem d30_22 : decode prog_8_method_17_code 22 = .ok (.lload_n 2, 1) := by decide +kernel
theorem d30_23 : decode prog_8_method_17_code 23 = .ok (.lstore 6, 2) := by decide +kernel
theorem d30_25 : decode prog_8_method_17_code 25 = .ok (.goto 7, 3) := by decide +kernel
theorem d30_28 : decode prog_8_method_17_code 28 = .ok (.lload 4, 2) := by decide +kernel
theorem d30_30 : decode prog_8_method_17_code 30 = .ok (.lstore 6, 2) := by decide +kernel
theorem d30_32 : decode prog_8_method_17_code 32 = .ok (.lload 6, 2) := by decide +kernel
theorem d30_34 : decode prog_8_method_17_code 34 = .ok (.lreturn, 1) := by decide +kernel
theorem pf30 : plainFor (⟨"com/example/libhilo/libhilo/SequenceSpec", "setOrDefault", "(Ljava/lang/Long;JJ)J"⟩ : MethodName) = true := by first | exact plainFor_of_name (by first | (simp [plainName, overriddenIn]; done) | decide +kernel) | decide +kernel
theorem ef_setOr (m : MethodId) (z0 : Addr) (z2 : Int64) (z3 : Int64) : entryFrame m #[(.ref z0), .null, (.long z2), (.long z3)] 8 = mkF m 0 #[.val (.ref z0), .val .null, .val (.long z2), .second, .val (.long z3), .second, .unset, .unset] [] := by first | (simp [entryFrame, mkF, argsToLocals, Value.category, *]; done) | rfl
set_option maxRecDepth 65536 in
set_option maxHeartbeats 40000000 in
theorem rm_setOr {l : Launch} {Z : State} {a0 : Array Value} {n0 : Nat} (G : Gl Z a0 n0) {h0 : Heap} (O : Old Z n0 h0) (a : Addr) (inc : Int64) (x : Int64) (y : Int64) (FI : Fld Z h0 a "com/example/libhilo/libhilo/SequenceSpec" "increment" "J" (.long inc)) :
    Ct [] l Z n0 (⟨"com/example/libhilo/libhilo/SequenceSpec", "setOrDefault", "(Ljava/lang/Long;JJ)J"⟩ : MethodName) prog_8_method_17_code 8 (some .long) ({ frames := 0, cells := 0, slots := 0, locals := 0 } : Room) #[(.ref a), .null, (.long x), (.long y)] h0 (fun v h => h = h0 ∧ v = some (.long (if 0 < inc then x else y))) := by
  refine Ct.intro pf30 ?_
  intro p e s m below meth c C
  refine AtW.cast ?_ (ef_setOr m a x y)
  refine w_aloadN (q := 1) C rfl rfl d30_0 rfl ?_
  refine w_ifnull_t (q := 13) C d30_1 (by decide) (by decide) ?_
  refine w_aloadN (q := 14) C rfl rfl d30_13 rfl ?_
  refine w_getF (q := 17) (host := "") C (Or.inl (G.1 _ (List.mem_of_getElem? (i := 107) rfl))) Via.refl FI d30_14 rfl ?_
  refine w_lconst (q := 18) (v := (0 : Int64)) C (by rfl) d30_17 rfl ?_
  refine w_lcmp (q := 19) C rfl d30_18 rfl ?_
  by_cases q1 : 0 < (lcmpW inc (0 : Int64))
  · refine w_if_le_f (q := 22) C d30_19 rfl q1 ?_
    refine w_lloadN (q := 23) C rfl d30_22 rfl ?_
    refine w_lstore (q := 25) (L' := #[.val (.ref a), .val .null, .val (.long x), .second, .val (.long y), .second, .val (.long x), .second]) C rfl d30_23 rfl ?_
    refine w_goto (q := 32) C d30_25 (by decide) (by decide) ?_
    refine w_lload (q := 34) C rfl d30_32 rfl ?_
    exact w_retJ C rfl d30_34 (by decide) (by decide) ⟨rfl, by rw [if_pos ((lw_gt _ _).mp q1)]⟩
  · refine w_if_le_t (q := 28) C d30_19 (by decide) (by decide) q1 ?_
    refine w_lload (q := 30) C rfl d30_28 rfl ?_
    refine w_lstore (q := 32) (L' := #[.val (.ref a), .val .null, .val (.long x), .second, .val (.long y), .second, .val (.long y), .second]) C rfl d30_30 rfl ?_
    refine w_lload (q := 34) C rfl d30_32 rfl ?_
    exact w_retJ C rfl d30_34 (by decide) (by decide) ⟨rfl, by rw [if_neg (fun q => q1 ((lw_gt _ _).mpr q))]⟩
theorem d29_0 : decode prog_8_method_11_code 0 = .ok (.aload_n 0, 1) := by decide +kernel
theorem d29_1 : decode prog_8_method_11_code 1 = .ok (.aload_n 0, 1) := by decide +kernel
theorem d29_2 : decode prog_8_method_11_code 2 = .ok (.getfield 21, 3) := by decide +kernel
theorem d29_5 : decode prog_8_method_11_code 5 = .ok (.lconst 1, 1) := by decide +kernel
theorem d29_6 : decode prog_8_method_11_code 6 = .ok (.ldc2_w 76, 3) := by decide +kernel
theorem d29_9 : decode prog_8_method_11_code 9 = .ok (.invokevirtual 72, 3) := by decide +kernel
theorem d29_12 : decode prog_8_method_11_code 12 = .ok (.lreturn, 1) := by decide +kernel
theorem pf29 : plainFor (⟨"com/example/libhilo/libhilo/SequenceSpec", "minimum", "()J"⟩ : MethodName) = true := by first | exact plainFor_of_name (by first | (simp [plainName, overriddenIn]; done) | decide +kernel) | decide +kernel
theorem ef_minimum (m : MethodId) (z0 : Addr) : entryFrame m #[(.ref z0)] 1 = mkF m 0 #[.val (.ref z0)] [] := by first | rfl | (simp [entryFrame, mkF, argsToLocals, Value.category, *]; done) | rfl
set_option maxRecDepth 65536 in
set_option maxHeartbeats 40000000 in
theorem rm_minimum {l : Launch} {Z : State} {a0 : Array Value} {n0 : Nat} (G : Gl Z a0 n0) {h0 : Heap} (O : Old Z n0 h0) (a : Addr) (inc : Int64) (E : Exa Z h0 a "com/example/libhilo/libhilo/SequenceSpec") (FI : Fld Z h0 a "com/example/libhilo/libhilo/SequenceSpec" "increment" "J" (.long inc)) (F_minimum : Fld Z h0 a "com/example/libhilo/libhilo/SequenceSpec" "minimum" "Ljava/lang/Long;" .null) :
    Ct [] l Z n0 (⟨"com/example/libhilo/libhilo/SequenceSpec", "minimum", "()J"⟩ : MethodName) prog_8_method_11_code 1 (some .long) ({ frames := 1, cells := 0, slots := 0, locals := 19 } : Room) #[(.ref a)] h0 (fun v h => h = h0 ∧ v = some (.long (if (0 : Int64) < inc then (1 : Int64) else (-9223372036854775808 : Int64)))) := by
  refine Ct.intro pf29 ?_
  intro p e s m below meth c C
  refine AtW.cast ?_ (ef_minimum m a)
  refine w_aloadN (q := 1) C rfl rfl d29_0 rfl ?_
  refine w_aloadN (q := 2) C rfl rfl d29_1 rfl ?_
  refine w_getF (q := 5) (host := "") C (Or.inl (G.1 _ (List.mem_of_getElem? (i := 111) rfl))) Via.refl F_minimum d29_2 rfl ?_
  refine w_lconst (q := 6) (v := (1 : Int64)) C (by rfl) d29_5 rfl ?_
  refine w_ldc2J (q := 9) C (G.1 _ (List.mem_of_getElem? (i := 165) rfl)) d29_6 rfl ?_
  refine w_callP (q := 12) (argsL := [.null, (.long (1 : Int64)), (.long (-9223372036854775808 : Int64))]) (S := []) (W := 0) (cells' := 0) (slots' := 0) (a := a) C E (G.1 _ (List.mem_of_getElem? (i := 166) rfl)) (G.1 _ (List.mem_of_getElem? (i := 167) rfl)) (NI.of_sel (args := #[]) (z := ({ cls := "com/example/libhilo/libhilo/SequenceSpec", name := "name", desc := "()Ljava/lang/String;" } : Jvm.MethodName)) (mvT C.2.2.2.1 (G.1 _ (List.mem_of_getElem? (i := 143) rfl)))) (G.1 _ (List.mem_of_getElem? (i := 168) rfl)) (G.1 _ (List.mem_of_getElem? (i := 42) rfl)) (G.1 _ (List.mem_of_getElem? (i := 169) rfl)) (by decide) (rm_setOr G O a inc _ _ FI) rfl (lenOf pd_26 rfl) rfl (by decide) (own_leb rfl) (by decide) rfl rfl (by decide) (by decide) d29_9 rfl ?_
  rintro _ h46 ⟨eh47, rfl⟩
  rw [eh47]
  show AtW p l e _ s m _ below meth c n0 _ h0 0 0 (mkF m 12 #[.val (.ref a)] [(.long (if (0 : Int64) < inc then (1 : Int64) else (-9223372036854775808 : Int64)))])
  exact w_retJ C rfl d29_12 (by decide) (by decide) ⟨rfl, rfl⟩
theorem d31_0 : decode prog_8_method_12_code 0 = .ok (.aload_n 0, 1) := by decide +kernel
theorem d31_1 : decode prog_8_method_12_code 1 = .ok (.aload_n 0, 1) := by decide +kernel
theorem d31_2 : decode prog_8_method_12_code 2 = .ok (.getfield 24, 3) := by decide +kernel
theorem d31_5 : decode prog_8_method_12_code 5 = .ok (.ldc2_w 78, 3) := by decide +kernel
theorem d31_8 : decode prog_8_method_12_code 8 = .ok (.ldc2_w 80, 3) := by decide +kernel
theorem d31_11 : decode prog_8_method_12_code 11 = .ok (.invokevirtual 72, 3) := by decide +kernel
theorem d31_14 : decode prog_8_method_12_code 14 = .ok (.lreturn, 1) := by decide +kernel
theorem pf31 : plainFor (⟨"com/example/libhilo/libhilo/SequenceSpec", "maximum", "()J"⟩ : MethodName) = true := by first | exact plainFor_of_name (by first | (simp [plainName, overriddenIn]; done) | decide +kernel) | decide +kernel
theorem ef_maximum (m : MethodId) (z0 : Addr) : entryFrame m #[(.ref z0)] 1 = mkF m 0 #[.val (.ref z0)] [] := by first | rfl | (simp [entryFrame, mkF, argsToLocals, Value.category, *]; done) | rfl
set_option maxRecDepth 65536 in
set_option maxHeartbeats 40000000 in
theorem rm_maximum {l : Launch} {Z : State} {a0 : Array Value} {n0 : Nat} (G : Gl Z a0 n0) {h0 : Heap} (O : Old Z n0 h0) (a : Addr) (inc : Int64) (E : Exa Z h0 a "com/example/libhilo/libhilo/SequenceSpec") (FI : Fld Z h0 a "com/example/libhilo/libhilo/SequenceSpec" "increment" "J" (.long inc)) (F_maximum : Fld Z h0 a "com/example/libhilo/libhilo/SequenceSpec" "maximum" "Ljava/lang/Long;" .null) :
    Ct [] l Z n0 (⟨"com/example/libhilo/libhilo/SequenceSpec", "maximum", "()J"⟩ : MethodName) prog_8_method_12_code 1 (some .long) ({ frames := 1, cells := 0, slots := 0, locals := 19 } : Room) #[(.ref a)] h0 (fun v h => h = h0 ∧ v = some (.long (if (0 : Int64) < inc then (9223372036854775807 : Int64) else (-1 : Int64)))) := by
  refine Ct.intro pf31 ?_
  intro p e s m below meth c C
  refine AtW.cast ?_ (ef_maximum m a)
  refine w_aloadN (q := 1) C rfl rfl d31_0 rfl ?_
  refine w_aloadN (q := 2) C rfl rfl d31_1 rfl ?_
  refine w_getF (q := 5) (host := "") C (Or.inl (G.1 _ (List.mem_of_getElem? (i := 113) rfl))) Via.refl F_maximum d31_2 rfl ?_
  refine w_ldc2J (q := 8) C (G.1 _ (List.mem_of_getElem? (i := 175) rfl)) d31_5 rfl ?_
  refine w_ldc2J (q := 11) C (G.1 _ (List.mem_of_getElem? (i := 176) rfl)) d31_8 rfl ?_
  refine w_callP (q := 14) (argsL := [.null, (.long (9223372036854775807 : Int64)), (.long (-1 : Int64))]) (S := []) (W := 0) (cells' := 0) (slots' := 0) (a := a) C E (G.1 _ (List.mem_of_getElem? (i := 166) rfl)) (G.1 _ (List.mem_of_getElem? (i := 167) rfl)) (NI.of_sel (args := #[]) (z := ({ cls := "com/example/libhilo/libhilo/SequenceSpec", name := "name", desc := "()Ljava/lang/String;" } : Jvm.MethodName)) (mvT C.2.2.2.1 (G.1 _ (List.mem_of_getElem? (i := 143) rfl)))) (G.1 _ (List.mem_of_getElem? (i := 168) rfl)) (G.1 _ (List.mem_of_getElem? (i := 42) rfl)) (G.1 _ (List.mem_of_getElem? (i := 169) rfl)) (by decide) (rm_setOr G O a inc _ _ FI) rfl (lenOf pd_26 rfl) rfl (by decide) (own_leb rfl) (by decide) rfl rfl (by decide) (by decide) d31_11 rfl ?_
  rintro _ h48 ⟨eh49, rfl⟩
  rw [eh49]
  show AtW p l e _ s m _ below meth c n0 _ h0 0 0 (mkF m 14 #[.val (.ref a)] [(.long (if (0 : Int64) < inc then (9223372036854775807 : Int64) else (-1 : Int64)))])
  exact w_retJ C rfl d31_14 (by decide) (by decide) ⟨rfl, rfl⟩
theorem d28_0 : decode prog_8_method_10_code 0 = .ok (.aload_n 0, 1) := by decide +kernel
theorem d28_1 : decode prog_8_method_10_code 1 = .ok (.aload_n 0, 1) := by decide +kernel
theorem d28_2 : decode prog_8_method_10_code 2 = .ok (.getfield 17, 3) := by decide +kernel
theorem d28_5 : decode prog_8_method_10_code 5 = .ok (.aload_n 0, 1) := by decide +kernel
theorem d28_6 : decode prog_8_method_10_code 6 = .ok (.invokevirtual 67, 3) := by decide +kernel
theorem d28_9 : decode prog_8_method_10_code 9 = .ok (.aload_n 0, 1) := by decide +kernel
theorem d28_10 : decode prog_8_method_10_code 10 = .ok (.invokevirtual 70, 3) := by decide +kernel
theorem d28_13 : decode prog_8_method_10_code 13 = .ok (.invokevirtual 72, 3) := by decide +kernel
theorem d28_16 : decode prog_8_method_10_code 16 = .ok (.lreturn, 1) := by decide +kernel
theorem pf28 : plainFor (⟨"com/example/libhilo/libhilo/SequenceSpec", "start", "()J"⟩ : MethodName) = true := by first | exact plainFor_of_name (by first | (simp [plainName, overriddenIn]; done) | decide +kernel) | decide +kernel
theorem ef_start (m : MethodId) (z0 : Addr) : entryFrame m #[(.ref z0)] 1 = mkF m 0 #[.val (.ref z0)] [] := by first | rfl | (simp [entryFrame, mkF, argsToLocals, Value.category, *]; done) | rfl
set_option maxRecDepth 65536 in
set_option maxHeartbeats 40000000 in
theorem rm_start {l : Launch} {Z : State} {a0 : Array Value} {n0 : Nat} (G : Gl Z a0 n0) {h0 : Heap} (O : Old Z n0 h0) (a : Addr) (inc : Int64) (E : Exa Z h0 a "com/example/libhilo/libhilo/SequenceSpec") (FI : Fld Z h0 a "com/example/libhilo/libhilo/SequenceSpec" "increment" "J" (.long inc)) (F_start : Fld Z h0 a "com/example/libhilo/libhilo/SequenceSpec" "start" "Ljava/lang/Long;" .null) (F_minimum : Fld Z h0 a "com/example/libhilo/libhilo/SequenceSpec" "minimum" "Ljava/lang/Long;" .null) (F_maximum : Fld Z h0 a "com/example/libhilo/libhilo/SequenceSpec" "maximum" "Ljava/lang/Long;" .null) :
    Ct [] l Z n0 (⟨"com/example/libhilo/libhilo/SequenceSpec", "start", "()J"⟩ : MethodName) prog_8_method_10_code 1 (some .long) ({ frames := 2, cells := 0, slots := 0, locals := 35 } : Room) #[(.ref a)] h0 (fun v h => h = h0 ∧ v = some (.long (if (0 : Int64) < inc then (if (0 : Int64) < inc then (1 : Int64) else (-9223372036854775808 : Int64)) else (if (0 : Int64) < inc then (9223372036854775807 : Int64) else (-1 : Int64))))) := by
  refine Ct.intro pf28 ?_
  intro p e s m below meth c C
  refine AtW.cast ?_ (ef_start m a)
  refine w_aloadN (q := 1) C rfl rfl d28_0 rfl ?_
  refine w_aloadN (q := 2) C rfl rfl d28_1 rfl ?_
  refine w_getF (q := 5) (host := "") C (Or.inl (G.1 _ (List.mem_of_getElem? (i := 109) rfl))) Via.refl F_start d28_2 rfl ?_
  refine w_aloadN (q := 6) C rfl rfl d28_5 rfl ?_
  refine w_callV (q := 9) (argsL := []) (S := [.null, (.ref a)]) (W := 2) (cells' := 0) (slots' := 0) (a := a) C E (G.1 _ (List.mem_of_getElem? (i := 160) rfl)) (G.1 _ (List.mem_of_getElem? (i := 161) rfl)) (w_nf C (G.1 _ (List.mem_of_getElem? (i := 163) rfl))) (G.1 _ (List.mem_of_getElem? (i := 163) rfl)) (G.1 _ (List.mem_of_getElem? (i := 162) rfl)) (G.1 _ (List.mem_of_getElem? (i := 42) rfl)) (G.1 _ (List.mem_of_getElem? (i := 164) rfl)) (by decide) (rm_minimum G O a inc E FI F_minimum) rfl (lenOf pd_25 rfl) rfl (by decide) (own_leb rfl) (by decide) rfl rfl (by decide) (by decide) d28_6 rfl ?_
  rintro _ h50 ⟨eh51, rfl⟩
  rw [eh51]
  show AtW p l e _ s m _ below meth c n0 _ h0 0 0 (mkF m 9 #[.val (.ref a)] [(.long (if (0 : Int64) < inc then (1 : Int64) else (-9223372036854775808 : Int64))), .null, (.ref a)])
  refine w_aloadN (q := 10) C rfl rfl d28_9 rfl ?_
  refine w_callV (q := 13) (argsL := []) (S := [(.long (if (0 : Int64) < inc then (1 : Int64) else (-9223372036854775808 : Int64))), .null, (.ref a)]) (W := 4) (cells' := 0) (slots' := 0) (a := a) C E (G.1 _ (List.mem_of_getElem? (i := 170) rfl)) (G.1 _ (List.mem_of_getElem? (i := 171) rfl)) (w_nf C (G.1 _ (List.mem_of_getElem? (i := 173) rfl))) (G.1 _ (List.mem_of_getElem? (i := 173) rfl)) (G.1 _ (List.mem_of_getElem? (i := 172) rfl)) (G.1 _ (List.mem_of_getElem? (i := 42) rfl)) (G.1 _ (List.mem_of_getElem? (i := 174) rfl)) (by decide) (rm_maximum G O a inc E FI F_maximum) rfl (lenOf pd_25 rfl) rfl (by decide) (own_leb rfl) (by decide) rfl rfl (by decide) (by decide) d28_10 rfl ?_
  rintro _ h52 ⟨eh53, rfl⟩
  rw [eh53]
  show AtW p l e _ s m _ below meth c n0 _ h0 0 0 (mkF m 13 #[.val (.ref a)] [(.long (if (0 : Int64) < inc then (9223372036854775807 : Int64) else (-1 : Int64))), (.long (if (0 : Int64) < inc then (1 : Int64) else (-9223372036854775808 : Int64))), .null, (.ref a)])
  refine w_callP (q := 16) (argsL := [.null, (.long (if (0 : Int64) < inc then (1 : Int64) else (-9223372036854775808 : Int64))), (.long (if (0 : Int64) < inc then (9223372036854775807 : Int64) else (-1 : Int64)))]) (S := []) (W := 0) (cells' := 0) (slots' := 0) (a := a) C E (G.1 _ (List.mem_of_getElem? (i := 166) rfl)) (G.1 _ (List.mem_of_getElem? (i := 167) rfl)) (NI.of_sel (args := #[]) (z := ({ cls := "com/example/libhilo/libhilo/SequenceSpec", name := "name", desc := "()Ljava/lang/String;" } : Jvm.MethodName)) (mvT C.2.2.2.1 (G.1 _ (List.mem_of_getElem? (i := 143) rfl)))) (G.1 _ (List.mem_of_getElem? (i := 168) rfl)) (G.1 _ (List.mem_of_getElem? (i := 42) rfl)) (G.1 _ (List.mem_of_getElem? (i := 169) rfl)) (by decide) (rm_setOr G O a inc _ _ FI) rfl (lenOf pd_26 rfl) rfl (by decide) (own_leb rfl) (by decide) rfl rfl (by decide) (by decide) d28_13 rfl ?_
  rintro _ h54 ⟨eh55, rfl⟩
  rw [eh55]
  show AtW p l e _ s m _ below meth c n0 _ h0 0 0 (mkF m 16 #[.val (.ref a)] [(.long (if (0 : Int64) < inc then (if (0 : Int64) < inc then (1 : Int64) else (-9223372036854775808 : Int64)) else (if (0 : Int64) < inc then (9223372036854775807 : Int64) else (-1 : Int64))))])
  exact w_retJ C rfl d28_16 (by decide) (by decide) ⟨rfl, rfl⟩
theorem d25_0 : decode prog_8_method_8_code 0 = .ok (.aload_n 0, 1) := by decide +kernel
theorem d25_1 : decode prog_8_method_8_code 1 = .ok (.getfield 7, 3) := by decide +kernel
theorem d25_4 : decode prog_8_method_8_code 4 = .ok (.areturn, 1) := by decide +kernel
theorem pf25 : plainFor (⟨"com/example/libhilo/libhilo/SequenceSpec", "name", "()Ljava/lang/String;"⟩ : MethodName) = true := by first | exact plainFor_of_name (by first | (simp [plainName, overriddenIn]; done) | decide +kernel) | decide +kernel
theorem ef_g_name (m : MethodId) (z0 : Addr) : entryFrame m #[(.ref z0)] 1 = mkF m 0 #[.val (.ref z0)] [] := by first | rfl | (simp [entryFrame, mkF, argsToLocals, Value.category, *]; done) | rfl
set_option maxRecDepth 65536 in
set_option maxHeartbeats 40000000 in
theorem rm_g_name {l : Launch} {Z : State} {a0 : Array Value} {n0 : Nat} (G : Gl Z a0 n0) {h0 : Heap} (O : Old Z n0 h0) (a : Addr) (nm : Addr) (F : Fld Z h0 a "com/example/libhilo/libhilo/SequenceSpec" "name" "Ljava/lang/String;" (.ref nm)) :
    Ct [] l Z n0 (⟨"com/example/libhilo/libhilo/SequenceSpec", "name", "()Ljava/lang/String;"⟩ : MethodName) prog_8_method_8_code 1 (some (.object "java/lang/String")) ({ frames := 0, cells := 0, slots := 0, locals := 0 } : Room) #[(.ref a)] h0 (fun v h => h = h0 ∧ v = some (.ref nm)) := by
  refine Ct.intro pf25 ?_
  intro p e s m below meth c C
  refine AtW.cast ?_ (ef_g_name m a)
  refine w_aloadN (q := 1) C rfl rfl d25_0 rfl ?_
  refine w_getF (q := 4) (host := "") C (Or.inl (G.1 _ (List.mem_of_getElem? (i := 105) rfl))) Via.refl F d25_1 rfl ?_
  exact w_retA C rfl rfl rfl d25_4 (by decide) (by decide) ⟨rfl, rfl⟩
theorem d27_0 : decode prog_8_method_9_code 0 = .ok (.aload_n 0, 1) := by decide +kernel
theorem d27_1 : decode prog_8_method_9_code 1 = .ok (.getfield 13, 3) := by decide +kernel
theorem d27_4 : decode prog_8_method_9_code 4 = .ok (.lreturn, 1) := by decide +kernel
theorem pf27 : plainFor (⟨"com/example/libhilo/libhilo/SequenceSpec", "increment", "()J"⟩ : MethodName) = true := by first | exact plainFor_of_name (by first | (simp [plainName, overriddenIn]; done) | decide +kernel) | decide +kernel
theorem ef_g_increment (m : MethodId) (z0 : Addr) : entryFrame m #[(.ref z0)] 1 = mkF m 0 #[.val (.ref z0)] [] := by first | rfl | (simp [entryFrame, mkF, argsToLocals, Value.category, *]; done) | rfl
set_option maxRecDepth 65536 in
set_option maxHeartbeats 40000000 in
theorem rm_g_increment {l : Launch} {Z : State} {a0 : Array Value} {n0 : Nat} (G : Gl Z a0 n0) {h0 : Heap} (O : Old Z n0 h0) (a : Addr) (inc : Int64) (F : Fld Z h0 a "com/example/libhilo/libhilo/SequenceSpec" "increment" "J" (.long inc)) :
    Ct [] l Z n0 (⟨"com/example/libhilo/libhilo/SequenceSpec", "increment", "()J"⟩ : MethodName) prog_8_method_9_code 1 (some .long) ({ frames := 0, cells := 0, slots := 0, locals := 0 } : Room) #[(.ref a)] h0 (fun v h => h = h0 ∧ v = some (.long inc)) := by
  refine Ct.intro pf27 ?_
  intro p e s m below meth c C
  refine AtW.cast ?_ (ef_g_increment m a)
  refine w_aloadN (q := 1) C rfl rfl d27_0 rfl ?_
  refine w_getF (q := 4) (host := "") C (Or.inl (G.1 _ (List.mem_of_getElem? (i := 107) rfl))) Via.refl F d27_1 rfl ?_
  exact w_retJ C rfl d27_4 (by decide) (by decide) ⟨rfl, rfl⟩
theorem d1_0 : decode method_2_code 0 = .ok (.iload_n 0, 1) := by decide +kernel
theorem d1_1 : decode method_2_code 1 = .ok (.bipush 32, 2) := by decide +kernel
theorem d1_3 : decode method_2_code 3 = .ok (.if_icmp .eq 27, 3) := by decide +kernel
theorem d1_6 : decode method_2_code 6 = .ok (.iload_n 0, 1) := by decide +kernel
theorem d1_7 : decode method_2_code 7 = .ok (.bipush 9, 2) := by decide +kernel
theorem d1_9 : decode method_2_code 9 = .ok (.if_icmp .lt 9, 3) := by decide +kernel
theorem d1_12 : decode method_2_code 12 = .ok (.iload_n 0, 1) := by decide +kernel
theorem d1_13 : decode method_2_code 13 = .ok (.bipush 13, 2) := by decide +kernel
theorem d1_15 : decode method_2_code 15 = .ok (.if_icmp .le 15, 3) := by decide +kernel
theorem d1_18 : decode method_2_code 18 = .ok (.iload_n 0, 1) := by decide +kernel
theorem d1_19 : decode method_2_code 19 = .ok (.bipush 28, 2) := by decide +kernel
theorem d1_21 : decode method_2_code 21 = .ok (.if_icmp .lt 13, 3) := by decide +kernel
theorem d1_24 : decode method_2_code 24 = .ok (.iload_n 0, 1) := by decide +kernel
theorem d1_25 : decode method_2_code 25 = .ok (.bipush 31, 2) := by decide +kernel
theorem d1_27 : decode method_2_code 27 = .ok (.if_icmp .gt 7, 3) := by decide +kernel
theorem d1_30 : decode method_2_code 30 = .ok (.iconst 1, 1) := by decide +kernel
theorem d1_31 : decode method_2_code 31 = .ok (.goto 4, 3) := by decide +kernel
theorem d1_34 : decode method_2_code 34 = .ok (.iconst 0, 1) := by decide +kernel
theorem d1_35 : decode method_2_code 35 = .ok (.ireturn, 1) := by decide +kernel
theorem pf1 : plainFor (⟨"com/example/libhilo/libhilo/StoredSequenceUndefinedPinLaw", "isWs", "(C)Z"⟩ : MethodName) = true := by first | exact plainFor_of_name (by first | (simp [plainName, overriddenIn]; done) | decide +kernel) | decide +kernel
theorem ef_ws (m : MethodId) (z0 : Int32) : entryFrame m #[(.int z0)] 1 = mkF m 0 #[.val (.int z0)] [] := by first | rfl | (simp [entryFrame, mkF, argsToLocals, Value.category, *]; done) | rfl
set_option maxRecDepth 65536 in
set_option maxHeartbeats 40000000 in
theorem rm_ws {l : Launch} {Z : State} {a0 : Array Value} {n0 : Nat} (G : Gl Z a0 n0) {h0 : Heap} (O : Old Z n0 h0) (ch : Int32) :
    Ct [] l Z n0 (⟨"com/example/libhilo/libhilo/StoredSequenceUndefinedPinLaw", "isWs", "(C)Z"⟩ : MethodName) method_2_code 1 (some .boolean) ({ frames := 0, cells := 0, slots := 0, locals := 0 } : Room) #[(.int ch)] h0 (fun v h => h = h0 ∧ v = some (.int (if own_isws ch = true then 1 else 0))) := by
  refine Ct.intro pf1 ?_
  intro p e s m below meth c C
  refine AtW.cast ?_ (ef_ws m ch)
  refine w_iloadN (q := 1) C rfl d1_0 rfl ?_
  refine w_bipush (q := 3) (v := (32 : Int32)) C (by rfl) d1_1 rfl ?_
  by_cases hc56 : ch = (32 : Int32)
  · refine w_icmp_eq_t (q := 30) C d1_3 (by decide) (by decide) hc56 ?_
    refine w_iconst (q := 31) (v := (1 : Int32)) C (by rfl) d1_30 rfl ?_
    refine w_goto (q := 35) C d1_31 (by decide) (by decide) ?_
    exact w_retZ (z := (1 : Int32)) C (t := .boolean) rfl (by simp) (by decide) d1_35 (by decide) (by decide) ⟨rfl, by simp [own_isws, *]⟩
  · refine w_icmp_eq_f (q := 6) C d1_3 rfl hc56 ?_
    refine w_iloadN (q := 7) C rfl d1_6 rfl ?_
    refine w_bipush (q := 9) (v := (9 : Int32)) C (by rfl) d1_7 rfl ?_
    by_cases hc57 : ch < (9 : Int32)
    · refine w_icmp_lt_t (q := 18) C d1_9 (by decide) (by decide) hc57 ?_
      refine w_iloadN (q := 19) C rfl d1_18 rfl ?_
      refine w_bipush (q := 21) (v := (28 : Int32)) C (by rfl) d1_19 rfl ?_
      by_cases hc58 : ch < (28 : Int32)
      · refine w_icmp_lt_t (q := 34) C d1_21 (by decide) (by decide) hc58 ?_
        refine w_iconst (q := 35) (v := (0 : Int32)) C (by rfl) d1_34 rfl ?_
        exact w_retZ (z := (0 : Int32)) C (t := .boolean) rfl (by simp) (by decide) d1_35 (by decide) (by decide) ⟨rfl, by simp [own_isws, *]⟩
      · refine w_icmp_lt_f (q := 24) C d1_21 rfl hc58 ?_
        refine w_iloadN (q := 25) C rfl d1_24 rfl ?_
        refine w_bipush (q := 27) (v := (31 : Int32)) C (by rfl) d1_25 rfl ?_
        by_cases hc59 : (31 : Int32) < ch
        · refine w_icmp_gt_t (q := 34) C d1_27 (by decide) (by decide) hc59 ?_
          refine w_iconst (q := 35) (v := (0 : Int32)) C (by rfl) d1_34 rfl ?_
          exact w_retZ (z := (0 : Int32)) C (t := .boolean) rfl (by simp) (by decide) d1_35 (by decide) (by decide) ⟨rfl, by simp [own_isws, *]⟩
        · refine w_icmp_gt_f (q := 30) C d1_27 rfl hc59 ?_
          refine w_iconst (q := 31) (v := (1 : Int32)) C (by rfl) d1_30 rfl ?_
          refine w_goto (q := 35) C d1_31 (by decide) (by decide) ?_
          exact w_retZ (z := (1 : Int32)) C (t := .boolean) rfl (by simp) (by decide) d1_35 (by decide) (by decide) ⟨rfl, by simp [own_isws, *]⟩
    · refine w_icmp_lt_f (q := 12) C d1_9 rfl hc57 ?_
      refine w_iloadN (q := 13) C rfl d1_12 rfl ?_
      refine w_bipush (q := 15) (v := (13 : Int32)) C (by rfl) d1_13 rfl ?_
      by_cases hc60 : (13 : Int32) < ch
      · refine w_icmp_le_f (q := 18) C d1_15 rfl hc60 ?_
        refine w_iloadN (q := 19) C rfl d1_18 rfl ?_
        refine w_bipush (q := 21) (v := (28 : Int32)) C (by rfl) d1_19 rfl ?_
        by_cases hc61 : ch < (28 : Int32)
        · refine w_icmp_lt_t (q := 34) C d1_21 (by decide) (by decide) hc61 ?_
          refine w_iconst (q := 35) (v := (0 : Int32)) C (by rfl) d1_34 rfl ?_
          exact w_retZ (z := (0 : Int32)) C (t := .boolean) rfl (by simp) (by decide) d1_35 (by decide) (by decide) ⟨rfl, by simp [own_isws, *]⟩
        · refine w_icmp_lt_f (q := 24) C d1_21 rfl hc61 ?_
          refine w_iloadN (q := 25) C rfl d1_24 rfl ?_
          refine w_bipush (q := 27) (v := (31 : Int32)) C (by rfl) d1_25 rfl ?_
          by_cases hc62 : (31 : Int32) < ch
          · refine w_icmp_gt_t (q := 34) C d1_27 (by decide) (by decide) hc62 ?_
            refine w_iconst (q := 35) (v := (0 : Int32)) C (by rfl) d1_34 rfl ?_
            exact w_retZ (z := (0 : Int32)) C (t := .boolean) rfl (by simp) (by decide) d1_35 (by decide) (by decide) ⟨rfl, by simp [own_isws, *]⟩
          · refine w_icmp_gt_f (q := 30) C d1_27 rfl hc62 ?_
            refine w_iconst (q := 31) (v := (1 : Int32)) C (by rfl) d1_30 rfl ?_
            refine w_goto (q := 35) C d1_31 (by decide) (by decide) ?_
            exact w_retZ (z := (1 : Int32)) C (t := .boolean) rfl (by simp) (by decide) d1_35 (by decide) (by decide) ⟨rfl, by simp [own_isws, *]⟩
      · refine w_icmp_le_t (q := 30) C d1_15 (by decide) (by decide) hc60 ?_
        refine w_iconst (q := 31) (v := (1 : Int32)) C (by rfl) d1_30 rfl ?_
        refine w_goto (q := 35) C d1_31 (by decide) (by decide) ?_
        exact w_retZ (z := (1 : Int32)) C (t := .boolean) rfl (by simp) (by decide) d1_35 (by decide) (by decide) ⟨rfl, by simp [own_isws, *]⟩
theorem d22_0 : decode jdk_2650_method_2_code 0 = .ok (.getstatic 17, 3) := by decide +kernel
theorem d22_3 : decode jdk_2650_method_2_code 3 = .ok (.areturn, 1) := by decide +kernel
theorem pf22 : plainFor (⟨"java/util/OptionalLong", "empty", "()Ljava/util/OptionalLong;"⟩ : MethodName) = true := by first | exact plainFor_of_name (by first | (simp [plainName, overriddenIn]; done) | decide +kernel) | decide +kernel
theorem ef_empty (m : MethodId)  : entryFrame m #[] 0 = mkF m 0 #[] [] := by first | rfl | (simp [entryFrame, mkF, argsToLocals, Value.category, *]; done) | rfl
set_option maxRecDepth 65536 in
set_option maxHeartbeats 40000000 in
theorem rm_empty {l : Launch} {Z : State} {a0 : Array Value} {n0 : Nat} (G : Gl Z a0 n0) {h0 : Heap} (O : Old Z n0 h0)  :
    Ct [] l Z n0 (⟨"java/util/OptionalLong", "empty", "()Ljava/util/OptionalLong;"⟩ : MethodName) jdk_2650_method_2_code 0 (some (.object "java/util/OptionalLong")) ({ frames := 0, cells := 0, slots := 0, locals := 0 } : Room) #[] h0 (fun v h => h = h0 ∧ ∃ x : Addr, v = some (.ref x) ∧ Exa Z h0 x "java/util/OptionalLong" ∧ Fld Z h0 x "java/util/OptionalLong" "isPresent" "Z" (.int (0 : Int32))) := by
  refine Ct.intro pf22 ?_
  intro p e s m below meth c C
  refine AtW.cast ?_ (ef_empty m)
  obtain ⟨x, Sx, Ex, Fx⟩ := G.oe
  refine w_getS (q := 3) (host := "") C (Or.inl (G.1 _ (List.mem_of_getElem? (i := 119) rfl))) Via.refl (Sx.ext O.2) d22_0 rfl ?_
  exact w_retA C rfl rfl rfl d22_3 (by decide) (by decide) ⟨rfl, x, rfl, Ex.ext O.2, Fx.ext O.2⟩
theorem d34_0 : decode jdk_2650_method_6_code 0 = .ok (.aload_n 0, 1) := by decide +kernel
theorem d34_1 : decode jdk_2650_method_6_code 1 = .ok (.getfield 7, 3) := by decide +kernel
theorem d34_4 : decode jdk_2650_method_6_code 4 = .ok (.ireturn, 1) := by decide +kernel
theorem pf34 : plainFor (⟨"java/util/OptionalLong", "isPresent", "()Z"⟩ : MethodName) = true := by first | exact plainFor_of_name (by first | (simp [plainName, overriddenIn]; done) | decide +kernel) | decide +kernel
theorem ef_isPresent (m : MethodId) (z0 : Addr) : entryFrame m #[(.ref z0)] 1 = mkF m 0 #[.val (.ref z0)] [] := by first | rfl | (simp [entryFrame, mkF, argsToLocals, Value.category, *]; done) | rfl
set_option maxRecDepth 65536 in
set_option maxHeartbeats 40000000 in
theorem rm_isPresent {l : Launch} {Z : State} {a0 : Array Value} {n0 : Nat} (G : Gl Z a0 n0) {h0 : Heap} (O : Old Z n0 h0) (a : Addr) (F : Fld Z h0 a "java/util/OptionalLong" "isPresent" "Z" (.int (0 : Int32))) :
    Ct [] l Z n0 (⟨"java/util/OptionalLong", "isPresent", "()Z"⟩ : MethodName) jdk_2650_method_6_code 1 (some .boolean) ({ frames := 0, cells := 0, slots := 0, locals := 0 } : Room) #[(.ref a)] h0 (fun v h => h = h0 ∧ v = some (.int 0)) := by
  refine Ct.intro pf34 ?_
  intro p e s m below meth c C
  refine AtW.cast ?_ (ef_isPresent m a)
  refine w_aloadN (q := 1) C rfl rfl d34_0 rfl ?_
  refine w_getF (q := 4) (host := "") C (Or.inl (G.1 _ (List.mem_of_getElem? (i := 195) rfl))) Via.refl F d34_1 rfl ?_
  exact w_retZ (z := (0 : Int32)) C (t := .boolean) rfl (by simp) (by decide) d34_4 (by decide) (by decide) ⟨rfl, rfl⟩
theorem d32_0 : decode prog_8_method_13_code 0 = .ok (.aload_n 0, 1) := by decide +kernel
theorem d32_1 : decode prog_8_method_13_code 1 = .ok (.getfield 13, 3) := by decide +kernel
theorem d32_4 : decode prog_8_method_13_code 4 = .ok (.lconst 0, 1) := by decide +kernel
theorem d32_5 : decode prog_8_method_13_code 5 = .ok (.lcmp, 1) := by decide +kernel
theorem d32_6 : decode prog_8_method_13_code 6 = .ok (.ifCond .le 11, 3) := by decide +kernel
theorem d32_9 : decode prog_8_method_13_code 9 = .ok (.aload_n 0, 1) := by decide +kernel
theorem d32_10 : decode prog_8_method_13_code 10 = .ok (.invokevirtual 70, 3) := by decide +kernel
theorem d32_13 : decode prog_8_method_13_code 13 = .ok (.lstore_n 1, 1) := by decide +kernel
theorem d32_14 : decode prog_8_method_13_code 14 = .ok (.goto 8, 3) := by decide +kernel
theorem d32_17 : decode prog_8_method_13_code 17 = .ok (.aload_n 0, 1) := by decide +kernel
theorem d32_18 : decode prog_8_method_13_code 18 = .ok (.invokevirtual 67, 3) := by decide +kernel
theorem d32_21 : decode prog_8_method_13_code 21 = .ok (.lstore_n 1, 1) := by decide +kernel
theorem d32_22 : decode prog_8_method_13_code 22 = .ok (.lload_n 1, 1) := by decide +kernel
theorem d32_23 : decode prog_8_method_13_code 23 = .ok (.lreturn, 1) := by decide +kernel
theorem pf32 : plainFor (⟨"com/example/libhilo/libhilo/SequenceSpec", "limit", "()J"⟩ : MethodName) = true := by first | exact plainFor_of_name (by first | (simp [plainName, overriddenIn]; done) | decide +kernel) | decide +kernel
theorem ef_limit (m : MethodId) (z0 : Addr) : entryFrame m #[(.ref z0)] 3 = mkF m 0 #[.val (.ref z0), .unset, .unset] [] := by first | rfl | (simp [entryFrame, mkF, argsToLocals, Value.category, *]; done) | rfl
set_option maxRecDepth 65536 in
set_option maxHeartbeats 40000000 in
theorem rm_limit {l : Launch} {Z : State} {a0 : Array Value} {n0 : Nat} (G : Gl Z a0 n0) {h0 : Heap} (O : Old Z n0 h0) (a : Addr) (inc : Int64) (E : Exa Z h0 a "com/example/libhilo/libhilo/SequenceSpec") (FI : Fld Z h0 a "com/example/libhilo/libhilo/SequenceSpec" "increment" "J" (.long inc)) (F_maximum : Fld Z h0 a "com/example/libhilo/libhilo/SequenceSpec" "maximum" "Ljava/lang/Long;" .null) (hinc : 0 < inc) :
    Ct [] l Z n0 (⟨"com/example/libhilo/libhilo/SequenceSpec", "limit", "()J"⟩ : MethodName) prog_8_method_13_code 3 (some .long) ({ frames := 2, cells := 0, slots := 0, locals := 31 } : Room) #[(.ref a)] h0 (fun v h => h = h0 ∧ v = some (.long (if (0 : Int64) < inc then (9223372036854775807 : Int64) else (-9223372036854775808 : Int64)))) := by
  refine Ct.intro pf32 ?_
  intro p e s m below meth c C
  refine AtW.cast ?_ (ef_limit m a)
  refine w_aloadN (q := 1) C rfl rfl d32_0 rfl ?_
  refine w_getF (q := 4) (host := "") C (Or.inl (G.1 _ (List.mem_of_getElem? (i := 107) rfl))) Via.refl FI d32_1 rfl ?_
  refine w_lconst (q := 5) (v := (0 : Int64)) C (by rfl) d32_4 rfl ?_
  refine w_lcmp (q := 6) C rfl d32_5 rfl ?_
  refine w_if_le_f (q := 9) C d32_6 rfl ((lw_gt _ _).mpr hinc) ?_
  refine w_aloadN (q := 10) C rfl rfl d32_9 rfl ?_
  refine w_callV (q := 13) (argsL := []) (S := []) (W := 0) (cells' := 0) (slots' := 0) (a := a) C E (G.1 _ (List.mem_of_getElem? (i := 170) rfl)) (G.1 _ (List.mem_of_getElem? (i := 171) rfl)) (w_nf C (G.1 _ (List.mem_of_getElem? (i := 173) rfl))) (G.1 _ (List.mem_of_getElem? (i := 173) rfl)) (G.1 _ (List.mem_of_getElem? (i := 172) rfl)) (G.1 _ (List.mem_of_getElem? (i := 42) rfl)) (G.1 _ (List.mem_of_getElem? (i := 174) rfl)) (by decide) (rm_maximum G O a inc E FI F_maximum) rfl (lenOf pd_25 rfl) rfl (by decide) (own_leb rfl) (by decide) rfl rfl (by decide) (by decide) d32_10 rfl ?_
  rintro _ h63 ⟨eh64, rfl⟩
  rw [eh64]
  show AtW p l e _ s m _ below meth c n0 _ h0 0 0 (mkF m 13 #[.val (.ref a), .unset, .unset] [(.long (if (0 : Int64) < inc then (9223372036854775807 : Int64) else (-1 : Int64)))])
  rw [show (if (0 : Int64) < inc then (9223372036854775807 : Int64) else (-1 : Int64)) = (9223372036854775807 : Int64) from if_pos hinc]
  refine w_lstoreN (q := 14) (L' := #[.val (.ref a), .val (.long (9223372036854775807 : Int64)), .second]) C rfl d32_13 rfl ?_
  refine w_goto (q := 22) C d32_14 (by decide) (by decide) ?_
  refine w_lloadN (q := 23) C rfl d32_22 rfl ?_
  exact w_retJ C rfl d32_23 (by decide) (by decide) ⟨rfl, by rw [if_pos hinc]⟩
theorem d24_0 : decode prog_12_method_3_code 0 = .ok (.aload_n 0, 1) := by decide +kernel
theorem d24_1 : decode prog_12_method_3_code 1 = .ok (.getfield 17, 3) := by decide +kernel
theorem d24_4 : decode prog_12_method_3_code 4 = .ok (.areturn, 1) := by decide +kernel
theorem pf24 : plainFor (⟨"com/example/libhilo/libhilo/StoredSequence", "definition", "()Lcom/example/libhilo/libhilo/SequenceSpec;"⟩ : MethodName) = true := by first | exact plainFor_of_name (by first | (simp [plainName, overriddenIn]; done) | decide +kernel) | decide +kernel
theorem ef_g_definition (m : MethodId) (z0 : Addr) : entryFrame m #[(.ref z0)] 1 = mkF m 0 #[.val (.ref z0)] [] := by first | rfl | (simp [entryFrame, mkF, argsToLocals, Value.category, *]; done) | rfl
set_option maxRecDepth 65536 in
set_option maxHeartbeats 40000000 in
theorem rm_g_definition {l : Launch} {Z : State} {a0 : Array Value} {n0 : Nat} (G : Gl Z a0 n0) {h0 : Heap} (O : Old Z n0 h0) (a : Addr) (x : Addr) (F : Fld Z h0 a "com/example/libhilo/libhilo/StoredSequence" "definition" "Lcom/example/libhilo/libhilo/SequenceSpec;" (.ref x)) :
    Ct [] l Z n0 (⟨"com/example/libhilo/libhilo/StoredSequence", "definition", "()Lcom/example/libhilo/libhilo/SequenceSpec;"⟩ : MethodName) prog_12_method_3_code 1 (some (.object "com/example/libhilo/libhilo/SequenceSpec")) ({ frames := 0, cells := 0, slots := 0, locals := 0 } : Room) #[(.ref a)] h0 (fun v h => h = h0 ∧ v = some (.ref x)) := by
  refine Ct.intro pf24 ?_
  intro p e s m below meth c C
  refine AtW.cast ?_ (ef_g_definition m a)
  refine w_aloadN (q := 1) C rfl rfl d24_0 rfl ?_
  refine w_getF (q := 4) (host := "") C (Or.inl (G.1 _ (List.mem_of_getElem? (i := 128) rfl))) Via.refl F d24_1 rfl ?_
  exact w_retA C rfl rfl rfl d24_4 (by decide) (by decide) ⟨rfl, rfl⟩
theorem d33_0 : decode prog_12_method_4_code 0 = .ok (.aload_n 0, 1) := by decide +kernel
theorem d33_1 : decode prog_12_method_4_code 1 = .ok (.getfield 26, 3) := by decide +kernel
theorem d33_4 : decode prog_12_method_4_code 4 = .ok (.areturn, 1) := by decide +kernel
theorem pf33 : plainFor (⟨"com/example/libhilo/libhilo/StoredSequence", "lastReserved", "()Ljava/util/OptionalLong;"⟩ : MethodName) = true := by first | exact plainFor_of_name (by first | (simp [plainName, overriddenIn]; done) | decide +kernel) | decide +kernel
theorem ef_g_lastReserved (m : MethodId) (z0 : Addr) : entryFrame m #[(.ref z0)] 1 = mkF m 0 #[.val (.ref z0)] [] := by first | rfl | (simp [entryFrame, mkF, argsToLocals, Value.category, *]; done) | rfl
set_option maxRecDepth 65536 in
set_option maxHeartbeats 40000000 in
theorem rm_g_lastReserved {l : Launch} {Z : State} {a0 : Array Value} {n0 : Nat} (G : Gl Z a0 n0) {h0 : Heap} (O : Old Z n0 h0) (a : Addr) (x : Addr) (F : Fld Z h0 a "com/example/libhilo/libhilo/StoredSequence" "lastReserved" "Ljava/util/OptionalLong;" (.ref x)) :
    Ct [] l Z n0 (⟨"com/example/libhilo/libhilo/StoredSequence", "lastReserved", "()Ljava/util/OptionalLong;"⟩ : MethodName) prog_12_method_4_code 1 (some (.object "java/util/OptionalLong")) ({ frames := 0, cells := 0, slots := 0, locals := 0 } : Room) #[(.ref a)] h0 (fun v h => h = h0 ∧ v = some (.ref x)) := by
  refine Ct.intro pf33 ?_
  intro p e s m below meth c C
  refine AtW.cast ?_ (ef_g_lastReserved m a)
  refine w_aloadN (q := 1) C rfl rfl d33_0 rfl ?_
  refine w_getF (q := 4) (host := "") C (Or.inl (G.1 _ (List.mem_of_getElem? (i := 133) rfl))) Via.refl F d33_1 rfl ?_
  exact w_retA C rfl rfl rfl d33_4 (by decide) (by decide) ⟨rfl, rfl⟩
theorem d23_0 : decode prog_12_method_1_code 0 = .ok (.aload_n 0, 1) := by decide +kernel
theorem d23_1 : decode prog_12_method_1_code 1 = .ok (.invokespecial 1, 3) := by decide +kernel
theorem d23_4 : decode prog_12_method_1_code 4 = .ok (.aload_n 0, 1) := by decide +kernel
theorem d23_5 : decode prog_12_method_1_code 5 = .ok (.aload_n 1, 1) := by decide +kernel
theorem d23_6 : decode prog_12_method_1_code 6 = .ok (.ldc 7, 2) := by decide +kernel
theorem d23_8 : decode prog_12_method_1_code 8 = .ok (.invokestatic 9, 3) := by decide +kernel
theorem d23_11 : decode prog_12_method_1_code 11 = .ok (.checkcast 15, 3) := by decide +kernel
theorem d23_14 : decode prog_12_method_1_code 14 = .ok (.putfield 17, 3) := by decide +kernel
theorem d23_17 : decode prog_12_method_1_code 17 = .ok (.aload_n 0, 1) := by decide +kernel
theorem d23_18 : decode prog_12_method_1_code 18 = .ok (.aload_n 2, 1) := by decide +kernel
theorem d23_19 : decode prog_12_method_1_code 19 = .ok (.ldc 22, 2) := by decide +kernel
theorem d23_21 : decode prog_12_method_1_code 21 = .ok (.invokestatic 9, 3) := by decide +kernel
theorem d23_24 : decode prog_12_method_1_code 24 = .ok (.checkcast 24, 3) := by decide +kernel
theorem d23_27 : decode prog_12_method_1_code 27 = .ok (.putfield 26, 3) := by decide +kernel
theorem d23_30 : decode prog_12_method_1_code 30 = .ok (.return_, 1) := by decide +kernel
theorem pf23 : plainFor (⟨"com/example/libhilo/libhilo/StoredSequence", "<init>", "(Lcom/example/libhilo/libhilo/SequenceSpec;Ljava/util/OptionalLong;)V"⟩ : MethodName) = true := by first | exact plainFor_of_name (by first | (simp [plainName, overriddenIn]; done) | decide +kernel) | decide +kernel
theorem ef_stored (m : MethodId) (z0 : Addr) (z1 : Addr) (z2 : Addr) : entryFrame m #[(.ref z0), (.ref z1), (.ref z2)] 3 = mkF m 0 #[.val (.ref z0), .val (.ref z1), .val (.ref z2)] [] := by first | rfl | (simp [entryFrame, mkF, argsToLocals, Value.category, *]; done) | rfl
set_option maxRecDepth 65536 in
set_option maxHeartbeats 40000000 in
theorem rm_stored {l : Launch} {Z : State} {a0 : Array Value} {n0 : Nat} (G : Gl Z a0 n0) {h0 : Heap} (O : Old Z n0 h0) (a : Addr) (sp : Addr) (oe : Addr) (E : Exa Z h0 a "com/example/libhilo/libhilo/StoredSequence") (F1 : Fld Z h0 a "com/example/libhilo/libhilo/StoredSequence" "definition" "Lcom/example/libhilo/libhilo/SequenceSpec;" .null) (F2 : Fld Z h0 a "com/example/libhilo/libhilo/StoredSequence" "lastReserved" "Ljava/util/OptionalLong;" .null) (hge : n0 ≤ a) (Es : Exa Z h0 sp "com/example/libhilo/libhilo/SequenceSpec") (Eo : Exa Z h0 oe "java/util/OptionalLong") :
    Cs [] l Z ([] : List (String × Nat)) n0 (⟨"com/example/libhilo/libhilo/StoredSequence", "<init>", "(Lcom/example/libhilo/libhilo/SequenceSpec;Ljava/util/OptionalLong;)V"⟩ : MethodName) prog_12_method_1_code 3 none ({ frames := 1, cells := 4, slots := 96, locals := 14 } : Room) #[(.ref a), (.ref sp), (.ref oe)] h0 (fun v h => Keep h0 h [a] ∧ v = none ∧ Exa Z h a "com/example/libhilo/libhilo/StoredSequence" ∧ Fld Z h a "com/example/libhilo/libhilo/StoredSequence" "definition" "Lcom/example/libhilo/libhilo/SequenceSpec;" (.ref sp) ∧ Fld Z h a "com/example/libhilo/libhilo/StoredSequence" "lastReserved" "Ljava/util/OptionalLong;" (.ref oe)) := by
  refine Cs.intro pf23 ?_
  intro p e s m below meth c C
  refine AtS.cast ?_ (ef_stored m a sp oe)
  refine s_aloadN (q := 1) C rfl rfl d23_0 rfl ?_
  refine s_initO (q := 4) (W := 0) C (G.1 _ (List.mem_of_getElem? (i := 123) rfl)) (G.1 _ (List.mem_of_getElem? (i := 16) rfl)) (G.1 _ (List.mem_of_getElem? (i := 17) rfl)) rfl (by decide) (own_leb rfl) (by decide) d23_1 rfl ?_
  refine s_aloadN (q := 5) C rfl rfl d23_4 rfl ?_
  refine s_aloadN (q := 6) C rfl rfl d23_5 rfl ?_
  refine s_ldcO (q := 8) (n := 40) (cells' := 2) (slots' := 44) C G.el G.sa (G.1 _ (List.mem_of_getElem? (i := 124) rfl)) (by decide +kernel) (by decide) rfl rfl (by decide) (by decide) d23_6 rfl ?_
  intro h65 s66 Eh65
  have K1 : Keep h0 h65 [] := Keep.of_ext Eh65
  replace O := Old_k0 O K1
  replace E := Exa_k0 E K1
  replace Es := Exa_k0 Es K1
  replace Eo := Exa_k0 Eo K1
  replace F1 := Fld_k0 F1 K1
  replace F2 := Fld_k0 F2 K1
  have KA : Keep h0 h65 [a] := (Keep.refl h0 [a]).ext Eh65
  refine s_callS1 (q := 11) (argsL := [(.ref sp), (.ref s66)]) (S := [(.ref a)]) (W := 1) (cells' := 2) (slots' := 44) C (G.1 _ (List.mem_of_getElem? (i := 125) rfl)) (G.1 _ (List.mem_of_getElem? (i := 51) rfl)) (G.1 _ (List.mem_of_getElem? (i := 52) rfl)) (G.1 _ (List.mem_of_getElem? (i := 53) rfl)) (by decide) (rm_reqNN G O sp s66) rfl (lenOf pd_11 rfl) rfl (by decide) (own_leb rfl) (by decide) rfl rfl (by decide) (by decide) (wl := []) (fun _ _ q => by rw [q.1]; exact Keep.refl _ _) all0 d23_8 rfl ?_
  rintro _ h68 ⟨eh69, rfl⟩
  rw [eh69]
  show AtS p l e _ s m _ below meth c Z _ _ n0 _ _ _ h65 2 44 (mkF m 11 #[.val (.ref a), .val (.ref sp), .val (.ref oe)] [(.ref sp), (.ref a)])
  refine s_cast (q := 14) C (G.1 _ (List.mem_of_getElem? (i := 126) rfl)) (Ins.self Es) d23_11 rfl ?_
  refine s_putF (q := 17) (host := "") (v' := (.ref sp)) C (G.1 _ (List.mem_of_getElem? (i := 128) rfl)) Via.refl F1 E (Or.inr ⟨(G.1 _ (List.mem_of_getElem? (i := 129) rfl)), rfl, rfl⟩) (G.1 _ (List.mem_of_getElem? (i := 39) rfl)) (ty := (.object "com/example/libhilo/libhilo/SequenceSpec")) (by decide) rfl rfl hge (SfOk.exa E (by decide)) d23_14 rfl ?_
  intro h70 Wh70
  have KB := KA.wr Wh70 (Or.inl (List.mem_cons_self ..))
  replace O := O.wr Wh70 hge
  replace F1 := F1.same Wh70
  replace F2 := F2.other Wh70 (Or.inr (slot_ne (Or.inr (G.1 _ (List.mem_of_getElem? (i := 134) rfl))) (Or.inr (G.1 _ (List.mem_of_getElem? (i := 129) rfl))) (by decide) (t := (.object "java/util/OptionalLong")) (t' := (.object "com/example/libhilo/libhilo/SequenceSpec")) (by decide) (by decide)))
  replace E := E.wr Wh70
  replace Eo := Eo.wr Wh70
  refine s_aloadN (q := 18) C rfl rfl d23_17 rfl ?_
  refine s_aloadN (q := 19) C rfl rfl d23_18 rfl ?_
  refine s_ldcO (q := 21) (n := 48) (cells' := 4) (slots' := 96) C G.el G.sa (G.1 _ (List.mem_of_getElem? (i := 130) rfl)) (by decide +kernel) (by decide) rfl rfl (by decide) (by decide) d23_19 rfl ?_
  intro h71 s72 Eh71
  have K3 : Keep h70 h71 [] := Keep.of_ext Eh71
  replace O := Old_k0 O K3
  replace E := Exa_k0 E K3
  replace Eo := Exa_k0 Eo K3
  replace F1 := Fld_k0 F1 K3
  replace F2 := Fld_k0 F2 K3
  have KC := KB.ext Eh71
  refine s_callS1 (q := 24) (argsL := [(.ref oe), (.ref s72)]) (S := [(.ref a)]) (W := 1) (cells' := 4) (slots' := 96) C (G.1 _ (List.mem_of_getElem? (i := 125) rfl)) (G.1 _ (List.mem_of_getElem? (i := 51) rfl)) (G.1 _ (List.mem_of_getElem? (i := 52) rfl)) (G.1 _ (List.mem_of_getElem? (i := 53) rfl)) (by decide) (rm_reqNN G O oe s72) rfl (lenOf pd_11 rfl) rfl (by decide) (own_leb rfl) (by decide) rfl rfl (by decide) (by decide) (wl := []) (fun _ _ q => by rw [q.1]; exact Keep.refl _ _) all0 d23_21 rfl ?_
  rintro _ h74 ⟨eh75, rfl⟩
  rw [eh75]
  show AtS p l e _ s m _ below meth c Z _ _ n0 _ _ _ h71 4 96 (mkF m 24 #[.val (.ref a), .val (.ref sp), .val (.ref oe)] [(.ref oe), (.ref a)])
  refine s_cast (q := 27) C (G.1 _ (List.mem_of_getElem? (i := 131) rfl)) (Ins.self Eo) d23_24 rfl ?_
  refine s_putF (q := 30) (host := "") (v' := (.ref oe)) C (G.1 _ (List.mem_of_getElem? (i := 133) rfl)) Via.refl F2 E (Or.inr ⟨(G.1 _ (List.mem_of_getElem? (i := 134) rfl)), rfl, rfl⟩) (G.1 _ (List.mem_of_getElem? (i := 39) rfl)) (ty := (.object "java/util/OptionalLong")) (by decide) rfl rfl hge (SfOk.exa E (by decide)) d23_27 rfl ?_
  intro h76 Wh76
  replace F2 := F2.same Wh76
  replace F1 := F1.other Wh76 (Or.inr (slot_ne (Or.inr (G.1 _ (List.mem_of_getElem? (i := 129) rfl))) (Or.inr (G.1 _ (List.mem_of_getElem? (i := 134) rfl))) (by decide) (t := (.object "com/example/libhilo/libhilo/SequenceSpec")) (t' := (.object "java/util/OptionalLong")) (by decide) (by decide)))
  replace E := E.wr Wh76
  exact s_retV C G.el rfl d23_30 (by decide) (by decide) ⟨KC.wr Wh76 (Or.inl (List.mem_cons_self ..)), rfl, E, F1, F2⟩
theorem d8_0 : decode prog_12_method_2_code 0 = .ok (.new 18, 3) := by decide +kernel
theorem d8_3 : decode prog_12_method_2_code 3 = .ok (.dup, 1) := by decide +kernel
theorem d8_4 : decode prog_12_method_2_code 4 = .ok (.aload_n 0, 1) := by decide +kernel
theorem d8_5 : decode prog_12_method_2_code 5 = .ok (.invokestatic 29, 3) := by decide +kernel
theorem d8_8 : decode prog_12_method_2_code 8 = .ok (.invokestatic 33, 3) := by decide +kernel
theorem d8_11 : decode prog_12_method_2_code 11 = .ok (.invokespecial 37, 3) := by decide +kernel
theorem d8_14 : decode prog_12_method_2_code 14 = .ok (.areturn, 1) := by decide +kernel
theorem pf8 : plainFor (⟨"com/example/libhilo/libhilo/StoredSequence", "undefined", "(Ljava/lang/String;)Lcom/example/libhilo/libhilo/StoredSequence;"⟩ : MethodName) = true := by first | exact plainFor_of_name (by first | (simp [plainName, overriddenIn]; done) | decide +kernel) | decide +kernel
theorem ef_undef (m : MethodId) (z0 : Addr) : entryFrame m #[(.ref z0)] 1 = mkF m 0 #[.val (.ref z0)] [] := by first | rfl | (simp [entryFrame, mkF, argsToLocals, Value.category, *]; done) | rfl
set_option maxRecDepth 65536 in
set_option maxHeartbeats 40000000 in
theorem rm_undef {l : Launch} {Z : State} {a0 : Array Value} {n0 : Nat} (G : Gl Z a0 n0) {h0 : Heap} (O : Old Z n0 h0) (a : Addr) (cs : List Int32) (S : Str Z h0 a cs) (hb : ¬ cs.all own_isws = true) :
    Cs [] l Z ([] : List (String × Nat)) n0 (⟨"com/example/libhilo/libhilo/StoredSequence", "undefined", "(Ljava/lang/String;)Lcom/example/libhilo/libhilo/StoredSequence;"⟩ : MethodName) prog_12_method_2_code 1 (some (.object "com/example/libhilo/libhilo/StoredSequence")) ({ frames := 7, cells := 8, slots := 123, locals := 94 } : Room) #[(.ref a)] h0 (fun v h => Keep h0 h [] ∧ ∃ q sp oe, v = some (.ref q) ∧ Exa Z h q "com/example/libhilo/libhilo/StoredSequence" ∧ Fld Z h q "com/example/libhilo/libhilo/StoredSequence" "definition" "Lcom/example/libhilo/libhilo/SequenceSpec;" (.ref sp) ∧ Fld Z h q "com/example/libhilo/libhilo/StoredSequence" "lastReserved" "Ljava/util/OptionalLong;" (.ref oe) ∧ Exa Z h sp "com/example/libhilo/libhilo/SequenceSpec" ∧ Fld Z h sp "com/example/libhilo/libhilo/SequenceSpec" "name" "Ljava/lang/String;" (.ref a) ∧ Fld Z h sp "com/example/libhilo/libhilo/SequenceSpec" "increment" "J" (.long (1 : Int64)) ∧ Fld Z h sp "com/example/libhilo/libhilo/SequenceSpec" "start" "Ljava/lang/Long;" .null ∧ Fld Z h sp "com/example/libhilo/libhilo/SequenceSpec" "minimum" "Ljava/lang/Long;" .null ∧ Fld Z h sp "com/example/libhilo/libhilo/SequenceSpec" "maximum" "Ljava/lang/Long;" .null ∧ Exa Z h oe "java/util/OptionalLong" ∧ Fld Z h oe "java/util/OptionalLong" "isPresent" "Z" (.int (0 : Int32))) := by
  refine Cs.intro pf8 ?_
  intro p e s m below meth c C
  refine AtS.cast ?_ (ef_undef m a)
  refine s_new (q := 3) (cells' := 1) (slots' := 2) C (G.1 _ (List.mem_of_getElem? (i := 38) rfl)) (G.1 _ (List.mem_of_getElem? (i := 39) rfl)) (G.1 _ (List.mem_of_getElem? (i := 36) rfl)) rfl rfl (by decide) (by decide) d8_0 rfl ?_
  intro h77 q g_q Eh77 A_q D_q
  have F_definition_q : Fld Z h77 q "com/example/libhilo/libhilo/StoredSequence" "definition" "Lcom/example/libhilo/libhilo/SequenceSpec;" .null := D_q (Or.inr (G.1 _ (List.mem_of_getElem? (i := 129) rfl))) (ty := (.object "com/example/libhilo/libhilo/SequenceSpec")) (by decide)
  have F_lastReserved_q : Fld Z h77 q "com/example/libhilo/libhilo/StoredSequence" "lastReserved" "Ljava/util/OptionalLong;" .null := D_q (Or.inr (G.1 _ (List.mem_of_getElem? (i := 134) rfl))) (ty := (.object "java/util/OptionalLong")) (by decide)
  have ge : n0 ≤ q := by rw [g_q]; exact Old_le O
  have K1 : Keep h0 h77 [] := Keep.of_ext Eh77
  replace O := Old_k0 O K1
  replace S := Str_k0 S K1
  have hgq : h0.size ≤ q := Nat.le_of_eq g_q.symm
  refine s_dup (q := 4) C rfl d8_3 rfl ?_
  refine s_aloadN (q := 5) C rfl rfl d8_4 rfl ?_
  refine s_callS2 (q := 8) (argsL := [(.ref a)]) (S := [(.ref q), (.ref q)]) (W := 2) (cells' := 4) (slots' := 27) C G.el (G.1 _ (List.mem_of_getElem? (i := 40) rfl)) (G.1 _ (List.mem_of_getElem? (i := 41) rfl)) (G.1 _ (List.mem_of_getElem? (i := 42) rfl)) (G.1 _ (List.mem_of_getElem? (i := 43) rfl)) (by decide) (rm_named G O a cs S hb) rfl (lenOf pd_9 rfl) rfl (by decide) (own_leb rfl) (by decide) rfl rfl (by decide) (by decide) d8_5 rfl ?_
  rintro _ h78 ⟨Kh78, sp, rfl, gsp, e0, e1, e2, e3, e4, e5⟩
  show AtS p l e _ s m _ below meth c Z _ _ n0 _ _ _ h78 4 27 (mkF m 8 #[.val (.ref a)] [(.ref sp), (.ref q), (.ref q)])
  replace O := Old_k0 O Kh78
  have A2 := Exa_k0 A_q Kh78
  have F1 := Fld_k0 F_definition_q Kh78
  have F2 := Fld_k0 F_lastReserved_q Kh78
  have hsq : sp ≠ q := Ne.symm (Nat.ne_of_lt (Nat.lt_of_lt_of_le A_q.lt gsp))
  refine s_callS1 (q := 11) (argsL := []) (S := [(.ref sp), (.ref q), (.ref q)]) (W := 3) (cells' := 4) (slots' := 27) C (G.1 _ (List.mem_of_getElem? (i := 115) rfl)) (G.1 _ (List.mem_of_getElem? (i := 116) rfl)) (G.1 _ (List.mem_of_getElem? (i := 117) rfl)) (G.1 _ (List.mem_of_getElem? (i := 118) rfl)) (by decide) (rm_empty G O ) rfl (lenOf pd_20 rfl) rfl (by decide) (own_leb rfl) (by decide) rfl rfl (by decide) (by decide) (wl := []) (fun _ _ q => by rw [q.1]; exact Keep.refl _ _) all0 d8_8 rfl ?_
  rintro _ h79 ⟨eh80, oe, rfl, o0, o1⟩
  rw [eh80]
  show AtS p l e _ s m _ below meth c Z _ _ n0 _ _ _ h78 4 27 (mkF m 11 #[.val (.ref a)] [(.ref oe), (.ref sp), (.ref q), (.ref q)])
  have hoq : oe ≠ q := ne_exa o0 A2 (by decide)
  refine s_callI2 (q := 14) (argsL := [(.ref sp), (.ref oe)]) (S := [(.ref q)]) (W := 1) (cells' := 8) (slots' := 123) (a := q) C G.el rfl (G.1 _ (List.mem_of_getElem? (i := 120) rfl)) (G.1 _ (List.mem_of_getElem? (i := 121) rfl)) (G.1 _ (List.mem_of_getElem? (i := 36) rfl)) (G.1 _ (List.mem_of_getElem? (i := 122) rfl)) (by decide) (rm_stored G O q sp oe A2 F1 F2 ge e0 o0) rfl (lenOf pd_21 rfl) rfl (by decide) (own_leb rfl) (by decide) rfl rfl (by decide) (by decide) d8_11 rfl ?_
  rintro _ h81 ⟨Kh81, rfl, f0, f1, f2⟩
  show AtS p l e _ s m _ below meth c Z _ _ n0 _ _ _ h81 8 123 (mkF m 14 #[.val (.ref a)] [(.ref q)])
  exact s_retA C G.el rfl rfl rfl d8_14 (by decide) (by decide) ⟨own_K1 (own_K0 K1 Kh78) Kh81 hgq, q, sp, oe, rfl, f0, f1, f2, e0.keep Kh81, e1.keep Kh81 (ninS hsq nin0), e2.keep Kh81 (ninS hsq nin0), e3.keep Kh81 (ninS hsq nin0), e4.keep Kh81 (ninS hsq nin0), e5.keep Kh81 (ninS hsq nin0), o0.keep Kh81, o1.keep Kh81 (ninS hoq nin0)⟩
-- CUT
theorem pf0 : plainFor (⟨"com/example/libhilo/libhilo/StoredSequenceUndefinedPinLaw", "law", "(IIII)Z"⟩ : MethodName) = true := by first | exact plainFor_of_name (by first | (simp [plainName, overriddenIn]; done) | decide +kernel) | decide +kernel
theorem ef_law (m : MethodId) (z0 : Int32) (z1 : Int32) (z2 : Int32) (z3 : Int32) : entryFrame m #[(.int z0), (.int z1), (.int z2), (.int z3)] maxLocals = mkF m 0 #[.val (.int z0), .val (.int z1), .val (.int z2), .val (.int z3), .unset, .unset, .unset, .unset, .unset, .unset, .unset, .unset, .unset, .unset] [] := by first | (simp [entryFrame, mkF, argsToLocals, Value.category, *, maxLocals]; done) | rfl
set_option maxRecDepth 65536 in
set_option maxHeartbeats 40000000 in
theorem rm_law {l : Launch} {Z : State} {a0 : Array Value} {n0 : Nat} (G : Gl Z a0 n0) {h0 : Heap} (O : Old Z n0 h0) (ls : Int32) (y0 : Int32) (y1 : Int32) (y2 : Int32) :
    Cs tables_1 l Z ([] : List (String × Nat)) n0 x code maxLocals ret room_1 #[(.int ls), (.int y0), (.int y1), (.int y2)] h0 (fun v h => v = some (.int 1)) := by
  refine Cs.intro pf0 ?_
  intro p e s m below meth c C
  refine AtS.cast ?_ (ef_law m ls y0 y1 y2)
  refine s_iloadN (q := 1) C rfl at_0 rfl ?_
  refine s_iconst (q := 2) (v := (3 : Int32)) C (by rfl) at_1 rfl ?_
  refine s_iand (q := 3) C rfl at_2 rfl ?_
  rcases own_and3 ls with q | q | q | q
  · rw [show (ls &&& (3 : Int32)) = (0 : Int32) from q]
    refine s_istore (q := 5) (L' := #[.val (.int ls), .val (.int y0), .val (.int y1), .val (.int y2), .val (.int (0 : Int32)), .unset, .unset, .unset, .unset, .unset, .unset, .unset, .unset, .unset]) C rfl at_3 rfl ?_
    refine s_iloadN (q := 6) C rfl at_5 rfl ?_
    refine s_sipush (q := 9) (v := (255 : Int32)) C (by rfl) at_6 rfl ?_
    refine s_iand (q := 10) C rfl at_9 rfl ?_
    refine s_i2c (q := 11) C rfl at_10 rfl ?_
    rw [show ((y0 &&& (255 : Int32)).toUInt32.toUInt16.toUInt32.toInt32) = (y0 &&& (255 : Int32)) from own_i2c (own_255 _)]
    generalize hc0 : (y0 &&& (255 : Int32)) = c0
    have r0 : ¬ c0 < 0 ∧ ¬ 255 < c0 := by rw [← hc0]; exact own_255 _
    refine s_istore (q := 13) (L' := #[.val (.int ls), .val (.int y0), .val (.int y1), .val (.int y2), .val (.int (0 : Int32)), .val (.int c0), .unset, .unset, .unset, .unset, .unset, .unset, .unset, .unset]) C rfl at_11 rfl ?_
    refine s_iloadN (q := 14) C rfl at_13 rfl ?_
    refine s_sipush (q := 17) (v := (255 : Int32)) C (by rfl) at_14 rfl ?_
    refine s_iand (q := 18) C rfl at_17 rfl ?_
    refine s_i2c (q := 19) C rfl at_18 rfl ?_
    rw [show ((y1 &&& (255 : Int32)).toUInt32.toUInt16.toUInt32.toInt32) = (y1 &&& (255 : Int32)) from own_i2c (own_255 _)]
    generalize hc1 : (y1 &&& (255 : Int32)) = c1
    have r1 : ¬ c1 < 0 ∧ ¬ 255 < c1 := by rw [← hc1]; exact own_255 _
    refine s_istore (q := 21) (L' := #[.val (.int ls), .val (.int y0), .val (.int y1), .val (.int y2), .val (.int (0 : Int32)), .val (.int c0), .val (.int c1), .unset, .unset, .unset, .unset, .unset, .unset, .unset]) C rfl at_19 rfl ?_
    refine s_iloadN (q := 22) C rfl at_21 rfl ?_
    refine s_sipush (q := 25) (v := (255 : Int32)) C (by rfl) at_22 rfl ?_
    refine s_iand (q := 26) C rfl at_25 rfl ?_
    refine s_i2c (q := 27) C rfl at_26 rfl ?_
    rw [show ((y2 &&& (255 : Int32)).toUInt32.toUInt16.toUInt32.toInt32) = (y2 &&& (255 : Int32)) from own_i2c (own_255 _)]
    generalize hc2 : (y2 &&& (255 : Int32)) = c2
    have r2 : ¬ c2 < 0 ∧ ¬ 255 < c2 := by rw [← hc2]; exact own_255 _
    refine s_istore (q := 29) (L' := #[.val (.int ls), .val (.int y0), .val (.int y1), .val (.int y2), .val (.int (0 : Int32)), .val (.int c0), .val (.int c1), .val (.int c2), .unset, .unset, .unset, .unset, .unset, .unset]) C rfl at_27 rfl ?_
    refine s_iload (q := 31) C rfl at_29 rfl ?_
    refine s_if_ne_f (q := 34) C at_31 rfl (by decide) ?_
    refine s_iconst (q := 35) (v := (0 : Int32)) C (by rfl) at_34 rfl ?_
    refine s_newArr (q := 37) (cap := 0) (cells' := 1) (slots' := 0) C (G.1 _ (List.mem_of_getElem? (i := 0) rfl)) rfl (by decide) (by decide) (by decide) rfl rfl (by decide) (by decide) at_35 rfl ?_
    intro h82 o83 g_o83 Eh82 V_o83
    replace V_o83 : Ar Z h82 o83 .char [] := V_o83
    have ge_o83 : n0 ≤ o83 := by rw [g_o83]; exact Old_le O
    have sz_o83 : h0.size ≤ o83 := Nat.le_of_eq g_o83.symm
    have K84 : Keep h0 h82 [] := Keep.of_ext Eh82
    replace O := Old_k0 O K84
    have V1 : Ar Z h82 o83 .char (List.map Value.int []) := V_o83
    refine s_astore (q := 39) (L' := #[.val (.int ls), .val (.int y0), .val (.int y1), .val (.int y2), .val (.int (0 : Int32)), .val (.int c0), .val (.int c1), .val (.int c2), .val (.ref o83), .unset, .unset, .unset, .unset, .unset]) C rfl rfl at_37 rfl ?_
    refine s_iconst (q := 40) (v := (1 : Int32)) C (by rfl) at_39 rfl ?_
    refine s_istore (q := 42) (L' := #[.val (.int ls), .val (.int y0), .val (.int y1), .val (.int y2), .val (.int (0 : Int32)), .val (.int c0), .val (.int c1), .val (.int c2), .val (.ref o83), .val (.int (1 : Int32)), .unset, .unset, .unset, .unset]) C rfl at_40 rfl ?_
    refine s_goto (q := 169) C at_42 (by decide) (by decide) ?_
    refine s_iload (q := 171) C rfl at_169 rfl ?_
    refine s_if_eq_f (q := 174) C at_171 rfl (by decide) ?_
    refine s_iconst (q := 175) (v := (1 : Int32)) C (by rfl) at_174 rfl ?_
    exact s_retZ (z := (1 : Int32)) C G.el (t := .boolean) rfl (by simp) (by decide) at_175 (by decide) (by decide) rfl
  · rw [show (ls &&& (3 : Int32)) = (1 : Int32) from q]
    refine s_istore (q := 5) (L' := #[.val (.int ls), .val (.int y0), .val (.int y1), .val (.int y2), .val (.int (1 : Int32)), .unset, .unset, .unset, .unset, .unset, .unset, .unset, .unset, .unset]) C rfl at_3 rfl ?_
    refine s_iloadN (q := 6) C rfl at_5 rfl ?_
    refine s_sipush (q := 9) (v := (255 : Int32)) C (by rfl) at_6 rfl ?_
    refine s_iand (q := 10) C rfl at_9 rfl ?_
    refine s_i2c (q := 11) C rfl at_10 rfl ?_
    rw [show ((y0 &&& (255 : Int32)).toUInt32.toUInt16.toUInt32.toInt32) = (y0 &&& (255 : Int32)) from own_i2c (own_255 _)]
    generalize hc0 : (y0 &&& (255 : Int32)) = c0
    have r0 : ¬ c0 < 0 ∧ ¬ 255 < c0 := by rw [← hc0]; exact own_255 _
    refine s_istore (q := 13) (L' := #[.val (.int ls), .val (.int y0), .val (.int y1), .val (.int y2), .val (.int (1 : Int32)), .val (.int c0), .unset, .unset, .unset, .unset, .unset, .unset, .unset, .unset]) C rfl at_11 rfl ?_
    refine s_iloadN (q := 14) C rfl at_13 rfl ?_
    refine s_sipush (q := 17) (v := (255 : Int32)) C (by rfl) at_14 rfl ?_
    refine s_iand (q := 18) C rfl at_17 rfl ?_
    refine s_i2c (q := 19) C rfl at_18 rfl ?_
    rw [show ((y1 &&& (255 : Int32)).toUInt32.toUInt16.toUInt32.toInt32) = (y1 &&& (255 : Int32)) from own_i2c (own_255 _)]
    generalize hc1 : (y1 &&& (255 : Int32)) = c1
    have r1 : ¬ c1 < 0 ∧ ¬ 255 < c1 := by rw [← hc1]; exact own_255 _
    refine s_istore (q := 21) (L' := #[.val (.int ls), .val (.int y0), .val (.int y1), .val (.int y2), .val (.int (1 : Int32)), .val (.int c0), .val (.int c1), .unset, .unset, .unset, .unset, .unset, .unset, .unset]) C rfl at_19 rfl ?_
    refine s_iloadN (q := 22) C rfl at_21 rfl ?_
    refine s_sipush (q := 25) (v := (255 : Int32)) C (by rfl) at_22 rfl ?_
    refine s_iand (q := 26) C rfl at_25 rfl ?_
    refine s_i2c (q := 27) C rfl at_26 rfl ?_
    rw [show ((y2 &&& (255 : Int32)).toUInt32.toUInt16.toUInt32.toInt32) = (y2 &&& (255 : Int32)) from own_i2c (own_255 _)]
    generalize hc2 : (y2 &&& (255 : Int32)) = c2
    have r2 : ¬ c2 < 0 ∧ ¬ 255 < c2 := by rw [← hc2]; exact own_255 _
    refine s_istore (q := 29) (L' := #[.val (.int ls), .val (.int y0), .val (.int y1), .val (.int y2), .val (.int (1 : Int32)), .val (.int c0), .val (.int c1), .val (.int c2), .unset, .unset, .unset, .unset, .unset, .unset]) C rfl at_27 rfl ?_
    refine s_iload (q := 31) C rfl at_29 rfl ?_
    refine s_if_ne_t (q := 45) C at_31 (by decide) (by decide) (by decide) ?_
    refine s_iload (q := 47) C rfl at_45 rfl ?_
    refine s_iconst (q := 48) (v := (1 : Int32)) C (by rfl) at_47 rfl ?_
    refine s_icmp_ne_f (q := 51) C at_48 rfl (by decide) ?_
    refine s_iconst (q := 52) (v := (1 : Int32)) C (by rfl) at_51 rfl ?_
    refine s_newArr (q := 54) (cap := 1) (cells' := 1) (slots' := 1) C (G.1 _ (List.mem_of_getElem? (i := 0) rfl)) rfl (by decide) (by decide) (by decide) rfl rfl (by decide) (by decide) at_52 rfl ?_
    intro h85 o86 g_o86 Eh85 V_o86
    replace V_o86 : Ar Z h85 o86 .char [(.int (0 : Int32))] := V_o86
    have ge_o86 : n0 ≤ o86 := by rw [g_o86]; exact Old_le O
    have sz_o86 : h0.size ≤ o86 := Nat.le_of_eq g_o86.symm
    have K87 : Keep h0 h85 [] := Keep.of_ext Eh85
    refine s_dup (q := 55) C rfl at_54 rfl ?_
    refine s_iconst (q := 56) (v := (0 : Int32)) C (by rfl) at_55 rfl ?_
    refine s_iload (q := 58) C rfl at_56 rfl ?_
    refine s_castore (q := 59) (z := c0) (i := 0) C (own_nar r0.1 r0.2) V_o86 rfl (own_ltb rfl) ge_o86 at_58 rfl ?_
    intro h88 Wh88 Vh88
    have K89 := K87.wr Wh88 (Or.inr sz_o86)
    replace O := Old_k0 O K89
    have V1 : Ar Z h88 o86 .char (List.map Value.int [c0]) := Vh88
    refine s_astore (q := 61) (L' := #[.val (.int ls), .val (.int y0), .val (.int y1), .val (.int y2), .val (.int (1 : Int32)), .val (.int c0), .val (.int c1), .val (.int c2), .val (.ref o86), .unset, .unset, .unset, .unset, .unset]) C rfl rfl at_59 rfl ?_
    refine s_iload (q := 63) C rfl at_61 rfl ?_
    have J : ¬ [c0].all own_isws = true → AtS p l e room_1 s m #[(.int ls), (.int y0), (.int y1), (.int y2)] below meth c Z ([] : List (String × Nat)) "com/example/libhilo/libhilo/StoredSequenceUndefinedPinLaw" n0 (fun v h => v = some (.int 1)) h0.size [o86] h88 1 1 (mkF m 169 #[.val (.int ls), .val (.int y0), .val (.int y1), .val (.int y2), .val (.int (1 : Int32)), .val (.int c0), .val (.int c1), .val (.int c2), .val (.ref o86), .val (.int (0 : Int32)), .unset, .unset, .unset, .unset] []) := by
      intro hb
      refine s_iload (q := 171) C rfl at_169 rfl ?_
      refine s_if_eq_t (q := 176) C at_171 (by decide) (by decide) (by decide) ?_
      refine s_new (q := 179) (cells' := 2) (slots' := 5) C (G.1 _ (List.mem_of_getElem? (i := 5) rfl)) (G.1 _ (List.mem_of_getElem? (i := 6) rfl)) (G.1 _ (List.mem_of_getElem? (i := 7) rfl)) rfl rfl (by decide) (by decide) at_176 rfl ?_
      intro h90 o91 g_o91 Eh90 A_o91 D_o91
      have F_coder_o91 : Fld Z h90 o91 "java/lang/String" "coder" "B" (.int (0 : Int32)) := D_o91 (Or.inr (G.1 _ (List.mem_of_getElem? (i := 31) rfl))) (ty := .byte) (by decide)
      have F_value_o91 : Fld Z h90 o91 "java/lang/String" "value" "[B" .null := D_o91 (Or.inr (G.1 _ (List.mem_of_getElem? (i := 33) rfl))) (ty := (.array .byte)) (by decide)
      have ge_o91 : n0 ≤ o91 := by rw [g_o91]; exact Old_le O
      have K92 : Keep h88 h90 [] := Keep.of_ext Eh90
      have O93 := Old_k0 O K92
      refine s_dup (q := 180) C rfl at_179 rfl ?_
      refine s_aload (q := 182) C rfl rfl at_180 rfl ?_
      have hL_S1 : L1 [c0] := (own_L1c r0 (fun c hc => absurd hc List.not_mem_nil))
      refine s_callI1 (q := 185) (argsL := [(.ref o86)]) (S := [(.ref o91)]) (W := 1) (cells' := 3) (slots' := 8) (a := o91) C rfl (G.1 _ (List.mem_of_getElem? (i := 8) rfl)) (G.1 _ (List.mem_of_getElem? (i := 9) rfl)) (G.1 _ (List.mem_of_getElem? (i := 7) rfl)) (G.1 _ (List.mem_of_getElem? (i := 10) rfl)) (by decide) (rm_strinit G O93 o91 o86 [c0] A_o91 F_value_o91 F_coder_o91 ge_o91 (Ar_k0 V1 K92) hL_S1 (own_leb rfl) (by simp)) rfl (lenOf pd_2 rfl) rfl (by decide) (own_leb rfl) (by decide) rfl rfl (by decide) (by decide) (wl := [o91]) (fun _ _ q => q.1) (allS (SfOk.mem (by simp)) (all0)) at_182 rfl ?_
      rintro _ h94 ⟨Kh94, rfl, S1⟩
      show AtS p l e _ s m _ below meth c Z _ _ n0 _ _ _ h94 3 8 (mkF m 185 #[.val (.int ls), .val (.int y0), .val (.int y1), .val (.int y2), .val (.int (1 : Int32)), .val (.int c0), .val (.int c1), .val (.int c2), .val (.ref o86), .val (.int (0 : Int32)), .unset, .unset, .unset, .unset] [(.ref o91)])
      have K95 : Keep h88 h94 [] := own_K1 K92 Kh94 (Nat.le_of_eq g_o91.symm)
      replace V1 := Ar_k0 V1 K95
      replace O := Old_k0 O K95
      refine s_astore (q := 187) (L' := #[.val (.int ls), .val (.int y0), .val (.int y1), .val (.int y2), .val (.int (1 : Int32)), .val (.int c0), .val (.int c1), .val (.int c2), .val (.ref o86), .val (.int (0 : Int32)), .val (.ref o91), .unset, .unset, .unset]) C rfl rfl at_185 rfl ?_
      refine s_aload (q := 189) C rfl rfl at_187 rfl ?_
      refine s_callS2 (q := 192) (argsL := [(.ref o91)]) (S := []) (W := 0) (cells' := 11) (slots' := 131) C G.el (G.1 _ (List.mem_of_getElem? (i := 34) rfl)) (G.1 _ (List.mem_of_getElem? (i := 35) rfl)) (G.1 _ (List.mem_of_getElem? (i := 36) rfl)) (G.1 _ (List.mem_of_getElem? (i := 37) rfl)) (by decide) (rm_undef G O o91 [c0] S1 hb) rfl (lenOf pd_8 rfl) rfl (by decide) (own_leb rfl) (by decide) rfl rfl (by decide) (by decide) at_189 rfl ?_
      rintro _ h96 ⟨Kh96, sq, sp, oe, rfl, s0, s1, s2, g0, g1, g2, g3, g4, g5, o0, o1⟩
      show AtS p l e _ s m _ below meth c Z _ _ n0 _ _ _ h96 11 131 (mkF m 192 #[.val (.int ls), .val (.int y0), .val (.int y1), .val (.int y2), .val (.int (1 : Int32)), .val (.int c0), .val (.int c1), .val (.int c2), .val (.ref o86), .val (.int (0 : Int32)), .val (.ref o91), .unset, .unset, .unset] [(.ref sq)])
      replace V1 := Ar_k0 V1 Kh96
      replace S1 := Str_k0 S1 Kh96
      replace O := Old_k0 O Kh96
      refine s_astore (q := 194) (L' := #[.val (.int ls), .val (.int y0), .val (.int y1), .val (.int y2), .val (.int (1 : Int32)), .val (.int c0), .val (.int c1), .val (.int c2), .val (.ref o86), .val (.int (0 : Int32)), .val (.ref o91), .val (.ref sq), .unset, .unset]) C rfl rfl at_192 rfl ?_
      refine s_aload (q := 196) C rfl rfl at_194 rfl ?_
      refine s_callV1 (q := 199) (argsL := []) (S := []) (W := 0) (cells' := 11) (slots' := 131) (a := sq) C s0 (G.1 _ (List.mem_of_getElem? (i := 135) rfl)) (G.1 _ (List.mem_of_getElem? (i := 136) rfl)) (s_nf (G.1 _ (List.mem_of_getElem? (i := 138) rfl))) (G.1 _ (List.mem_of_getElem? (i := 138) rfl)) (G.1 _ (List.mem_of_getElem? (i := 137) rfl)) (G.1 _ (List.mem_of_getElem? (i := 36) rfl)) (G.1 _ (List.mem_of_getElem? (i := 139) rfl)) (by decide) (rm_g_definition G O sq sp s1) rfl (lenOf pd_22 rfl) rfl (by decide) (own_leb rfl) (by decide) rfl rfl (by decide) (by decide) (wl := []) (fun _ _ q => by rw [q.1]; exact Keep.refl _ _) all0 at_196 rfl ?_
      rintro _ h97 ⟨eh98, rfl⟩
      rw [eh98]
      show AtS p l e _ s m _ below meth c Z _ _ n0 _ _ _ h96 11 131 (mkF m 199 #[.val (.int ls), .val (.int y0), .val (.int y1), .val (.int y2), .val (.int (1 : Int32)), .val (.int c0), .val (.int c1), .val (.int c2), .val (.ref o86), .val (.int (0 : Int32)), .val (.ref o91), .val (.ref sq), .unset, .unset] [(.ref sp)])
      refine s_astore (q := 201) (L' := #[.val (.int ls), .val (.int y0), .val (.int y1), .val (.int y2), .val (.int (1 : Int32)), .val (.int c0), .val (.int c1), .val (.int c2), .val (.ref o86), .val (.int (0 : Int32)), .val (.ref o91), .val (.ref sq), .val (.ref sp), .unset]) C rfl rfl at_199 rfl ?_
      refine s_aload (q := 203) C rfl rfl at_201 rfl ?_
      refine s_ifnonnull_t (q := 208) C at_203 (by decide) (by decide) ?_
      refine s_aload (q := 210) C rfl rfl at_208 rfl ?_
      refine s_callV1 (q := 213) (argsL := []) (S := []) (W := 0) (cells' := 11) (slots' := 131) (a := sp) C g0 (G.1 _ (List.mem_of_getElem? (i := 140) rfl)) (G.1 _ (List.mem_of_getElem? (i := 141) rfl)) (s_nf (G.1 _ (List.mem_of_getElem? (i := 143) rfl))) (G.1 _ (List.mem_of_getElem? (i := 143) rfl)) (G.1 _ (List.mem_of_getElem? (i := 142) rfl)) (G.1 _ (List.mem_of_getElem? (i := 42) rfl)) (G.1 _ (List.mem_of_getElem? (i := 144) rfl)) (by decide) (rm_g_name G O sp o91 g1) rfl (lenOf pd_23 rfl) rfl (by decide) (own_leb rfl) (by decide) rfl rfl (by decide) (by decide) (wl := []) (fun _ _ q => by rw [q.1]; exact Keep.refl _ _) all0 at_210 rfl ?_
      rintro _ h99 ⟨eh100, rfl⟩
      rw [eh100]
      show AtS p l e _ s m _ below meth c Z _ _ n0 _ _ _ h96 11 131 (mkF m 213 #[.val (.int ls), .val (.int y0), .val (.int y1), .val (.int y2), .val (.int (1 : Int32)), .val (.int c0), .val (.int c1), .val (.int c2), .val (.ref o86), .val (.int (0 : Int32)), .val (.ref o91), .val (.ref sq), .val (.ref sp), .unset] [(.ref o91)])
      refine s_aload (q := 215) C rfl rfl at_213 rfl ?_
      refine s_callV1 (q := 218) (argsL := [(.ref o91)]) (S := []) (W := 0) (cells' := 11) (slots' := 131) (a := o91) C S1.1 (G.1 _ (List.mem_of_getElem? (i := 145) rfl)) (G.1 _ (List.mem_of_getElem? (i := 146) rfl)) (s_nf (G.1 _ (List.mem_of_getElem? (i := 148) rfl))) (G.1 _ (List.mem_of_getElem? (i := 148) rfl)) (G.1 _ (List.mem_of_getElem? (i := 147) rfl)) (G.1 _ (List.mem_of_getElem? (i := 7) rfl)) (G.1 _ (List.mem_of_getElem? (i := 149) rfl)) (by decide) (rm_eqSame G O o91) rfl (lenOf pd_24 rfl) rfl (by decide) (own_leb rfl) (by decide) rfl rfl (by decide) (by decide) (wl := []) (fun _ _ q => by rw [q.1]; exact Keep.refl _ _) all0 at_215 rfl ?_
      rintro _ h101 ⟨eh102, rfl⟩
      rw [eh102]
      show AtS p l e _ s m _ below meth c Z _ _ n0 _ _ _ h96 11 131 (mkF m 218 #[.val (.int ls), .val (.int y0), .val (.int y1), .val (.int y2), .val (.int (1 : Int32)), .val (.int c0), .val (.int c1), .val (.int c2), .val (.ref o86), .val (.int (0 : Int32)), .val (.ref o91), .val (.ref sq), .val (.ref sp), .unset] [(.int (1 : Int32))])
      refine s_istore (q := 220) (L' := #[.val (.int ls), .val (.int y0), .val (.int y1), .val (.int y2), .val (.int (1 : Int32)), .val (.int c0), .val (.int c1), .val (.int c2), .val (.ref o86), .val (.int (0 : Int32)), .val (.ref o91), .val (.ref sq), .val (.ref sp), .val (.int (1 : Int32))]) C rfl at_218 rfl ?_
      refine s_iload (q := 222) C rfl at_220 rfl ?_
      refine s_if_eq_f (q := 225) C at_222 rfl (by decide) ?_
      refine s_aload (q := 227) C rfl rfl at_225 rfl ?_
      refine s_callV1 (q := 230) (argsL := []) (S := []) (W := 0) (cells' := 11) (slots' := 131) (a := sp) C g0 (G.1 _ (List.mem_of_getElem? (i := 150) rfl)) (G.1 _ (List.mem_of_getElem? (i := 151) rfl)) (s_nf (G.1 _ (List.mem_of_getElem? (i := 153) rfl))) (G.1 _ (List.mem_of_getElem? (i := 153) rfl)) (G.1 _ (List.mem_of_getElem? (i := 152) rfl)) (G.1 _ (List.mem_of_getElem? (i := 42) rfl)) (G.1 _ (List.mem_of_getElem? (i := 154) rfl)) (by decide) (rm_g_increment G O sp 1 g2) rfl (lenOf pd_25 rfl) rfl (by decide) (own_leb rfl) (by decide) rfl rfl (by decide) (by decide) (wl := []) (fun _ _ q => by rw [q.1]; exact Keep.refl _ _) all0 at_227 rfl ?_
      rintro _ h103 ⟨eh104, rfl⟩
      rw [eh104]
      show AtS p l e _ s m _ below meth c Z _ _ n0 _ _ _ h96 11 131 (mkF m 230 #[.val (.int ls), .val (.int y0), .val (.int y1), .val (.int y2), .val (.int (1 : Int32)), .val (.int c0), .val (.int c1), .val (.int c2), .val (.ref o86), .val (.int (0 : Int32)), .val (.ref o91), .val (.ref sq), .val (.ref sp), .val (.int (1 : Int32))] [(.long (1 : Int64))])
      refine s_lconst (q := 231) (v := (1 : Int64)) C (by rfl) at_230 rfl ?_
      refine s_lcmp (q := 232) (z := (0 : Int32)) C (by decide) at_231 rfl ?_
      refine s_if_ne_f (q := 235) C at_232 rfl (by decide) ?_
      refine s_iconst (q := 236) (v := (1 : Int32)) C (by rfl) at_235 rfl ?_
      refine s_goto (q := 240) C at_236 (by decide) (by decide) ?_
      refine s_istore (q := 242) (L' := #[.val (.int ls), .val (.int y0), .val (.int y1), .val (.int y2), .val (.int (1 : Int32)), .val (.int c0), .val (.int c1), .val (.int c2), .val (.ref o86), .val (.int (0 : Int32)), .val (.ref o91), .val (.ref sq), .val (.ref sp), .val (.int (1 : Int32))]) C rfl at_240 rfl ?_
      refine s_iload (q := 244) C rfl at_242 rfl ?_
      refine s_if_eq_f (q := 247) C at_244 rfl (by decide) ?_
      refine s_aload (q := 249) C rfl rfl at_247 rfl ?_
      refine s_callV1 (q := 252) (argsL := []) (S := []) (W := 0) (cells' := 11) (slots' := 131) (a := sp) C g0 (G.1 _ (List.mem_of_getElem? (i := 155) rfl)) (G.1 _ (List.mem_of_getElem? (i := 156) rfl)) (s_nf (G.1 _ (List.mem_of_getElem? (i := 158) rfl))) (G.1 _ (List.mem_of_getElem? (i := 158) rfl)) (G.1 _ (List.mem_of_getElem? (i := 157) rfl)) (G.1 _ (List.mem_of_getElem? (i := 42) rfl)) (G.1 _ (List.mem_of_getElem? (i := 159) rfl)) (by decide) (rm_start G O sp 1 g0 g2 g3 g4 g5) rfl (lenOf pd_25 rfl) rfl (by decide) (own_leb rfl) (by decide) rfl rfl (by decide) (by decide) (wl := []) (fun _ _ q => by rw [q.1]; exact Keep.refl _ _) all0 at_249 rfl ?_
      rintro _ h105 ⟨eh106, rfl⟩
      rw [eh106]
      show AtS p l e _ s m _ below meth c Z _ _ n0 _ _ _ h96 11 131 (mkF m 252 #[.val (.int ls), .val (.int y0), .val (.int y1), .val (.int y2), .val (.int (1 : Int32)), .val (.int c0), .val (.int c1), .val (.int c2), .val (.ref o86), .val (.int (0 : Int32)), .val (.ref o91), .val (.ref sq), .val (.ref sp), .val (.int (1 : Int32))] [(.long (if (0 : Int64) < (1 : Int64) then (if (0 : Int64) < (1 : Int64) then (1 : Int64) else (-9223372036854775808 : Int64)) else (if (0 : Int64) < (1 : Int64) then (9223372036854775807 : Int64) else (-1 : Int64))))])
      rw [show (if (0 : Int64) < (1 : Int64) then (if (0 : Int64) < (1 : Int64) then (1 : Int64) else (-9223372036854775808 : Int64)) else (if (0 : Int64) < (1 : Int64) then (9223372036854775807 : Int64) else (-1 : Int64))) = (1 : Int64) from by decide]
      refine s_lconst (q := 253) (v := (1 : Int64)) C (by rfl) at_252 rfl ?_
      refine s_lcmp (q := 254) (z := (0 : Int32)) C (by decide) at_253 rfl ?_
      refine s_if_ne_f (q := 257) C at_254 rfl (by decide) ?_
      refine s_iconst (q := 258) (v := (1 : Int32)) C (by rfl) at_257 rfl ?_
      refine s_goto (q := 262) C at_258 (by decide) (by decide) ?_
      refine s_istore (q := 264) (L' := #[.val (.int ls), .val (.int y0), .val (.int y1), .val (.int y2), .val (.int (1 : Int32)), .val (.int c0), .val (.int c1), .val (.int c2), .val (.ref o86), .val (.int (0 : Int32)), .val (.ref o91), .val (.ref sq), .val (.ref sp), .val (.int (1 : Int32))]) C rfl at_262 rfl ?_
      refine s_iload (q := 266) C rfl at_264 rfl ?_
      refine s_if_eq_f (q := 269) C at_266 rfl (by decide) ?_
      refine s_aload (q := 271) C rfl rfl at_269 rfl ?_
      refine s_callV1 (q := 274) (argsL := []) (S := []) (W := 0) (cells' := 11) (slots' := 131) (a := sp) C g0 (G.1 _ (List.mem_of_getElem? (i := 177) rfl)) (G.1 _ (List.mem_of_getElem? (i := 161) rfl)) (s_nf (G.1 _ (List.mem_of_getElem? (i := 163) rfl))) (G.1 _ (List.mem_of_getElem? (i := 163) rfl)) (G.1 _ (List.mem_of_getElem? (i := 162) rfl)) (G.1 _ (List.mem_of_getElem? (i := 42) rfl)) (G.1 _ (List.mem_of_getElem? (i := 164) rfl)) (by decide) (rm_minimum G O sp 1 g0 g2 g4) rfl (lenOf pd_25 rfl) rfl (by decide) (own_leb rfl) (by decide) rfl rfl (by decide) (by decide) (wl := []) (fun _ _ q => by rw [q.1]; exact Keep.refl _ _) all0 at_271 rfl ?_
      rintro _ h107 ⟨eh108, rfl⟩
      rw [eh108]
      show AtS p l e _ s m _ below meth c Z _ _ n0 _ _ _ h96 11 131 (mkF m 274 #[.val (.int ls), .val (.int y0), .val (.int y1), .val (.int y2), .val (.int (1 : Int32)), .val (.int c0), .val (.int c1), .val (.int c2), .val (.ref o86), .val (.int (0 : Int32)), .val (.ref o91), .val (.ref sq), .val (.ref sp), .val (.int (1 : Int32))] [(.long (if (0 : Int64) < (1 : Int64) then (1 : Int64) else (-9223372036854775808 : Int64)))])
      rw [show (if (0 : Int64) < (1 : Int64) then (1 : Int64) else (-9223372036854775808 : Int64)) = (1 : Int64) from by decide]
      refine s_lconst (q := 275) (v := (1 : Int64)) C (by rfl) at_274 rfl ?_
      refine s_lcmp (q := 276) (z := (0 : Int32)) C (by decide) at_275 rfl ?_
      refine s_if_ne_f (q := 279) C at_276 rfl (by decide) ?_
      refine s_iconst (q := 280) (v := (1 : Int32)) C (by rfl) at_279 rfl ?_
      refine s_goto (q := 284) C at_280 (by decide) (by decide) ?_
      refine s_istore (q := 286) (L' := #[.val (.int ls), .val (.int y0), .val (.int y1), .val (.int y2), .val (.int (1 : Int32)), .val (.int c0), .val (.int c1), .val (.int c2), .val (.ref o86), .val (.int (0 : Int32)), .val (.ref o91), .val (.ref sq), .val (.ref sp), .val (.int (1 : Int32))]) C rfl at_284 rfl ?_
      refine s_iload (q := 288) C rfl at_286 rfl ?_
      refine s_if_eq_f (q := 291) C at_288 rfl (by decide) ?_
      refine s_aload (q := 293) C rfl rfl at_291 rfl ?_
      refine s_callV1 (q := 296) (argsL := []) (S := []) (W := 0) (cells' := 11) (slots' := 131) (a := sp) C g0 (G.1 _ (List.mem_of_getElem? (i := 178) rfl)) (G.1 _ (List.mem_of_getElem? (i := 171) rfl)) (s_nf (G.1 _ (List.mem_of_getElem? (i := 173) rfl))) (G.1 _ (List.mem_of_getElem? (i := 173) rfl)) (G.1 _ (List.mem_of_getElem? (i := 172) rfl)) (G.1 _ (List.mem_of_getElem? (i := 42) rfl)) (G.1 _ (List.mem_of_getElem? (i := 174) rfl)) (by decide) (rm_maximum G O sp 1 g0 g2 g5) rfl (lenOf pd_25 rfl) rfl (by decide) (own_leb rfl) (by decide) rfl rfl (by decide) (by decide) (wl := []) (fun _ _ q => by rw [q.1]; exact Keep.refl _ _) all0 at_293 rfl ?_
      rintro _ h109 ⟨eh110, rfl⟩
      rw [eh110]
      show AtS p l e _ s m _ below meth c Z _ _ n0 _ _ _ h96 11 131 (mkF m 296 #[.val (.int ls), .val (.int y0), .val (.int y1), .val (.int y2), .val (.int (1 : Int32)), .val (.int c0), .val (.int c1), .val (.int c2), .val (.ref o86), .val (.int (0 : Int32)), .val (.ref o91), .val (.ref sq), .val (.ref sp), .val (.int (1 : Int32))] [(.long (if (0 : Int64) < (1 : Int64) then (9223372036854775807 : Int64) else (-1 : Int64)))])
      rw [show (if (0 : Int64) < (1 : Int64) then (9223372036854775807 : Int64) else (-1 : Int64)) = (9223372036854775807 : Int64) from by decide]
      refine s_ldc2J (q := 299) C (G.1 _ (List.mem_of_getElem? (i := 179) rfl)) at_296 rfl ?_
      refine s_lcmp (q := 300) (z := (0 : Int32)) C (by decide) at_299 rfl ?_
      refine s_if_ne_f (q := 303) C at_300 rfl (by decide) ?_
      refine s_iconst (q := 304) (v := (1 : Int32)) C (by rfl) at_303 rfl ?_
      refine s_goto (q := 308) C at_304 (by decide) (by decide) ?_
      refine s_istore (q := 310) (L' := #[.val (.int ls), .val (.int y0), .val (.int y1), .val (.int y2), .val (.int (1 : Int32)), .val (.int c0), .val (.int c1), .val (.int c2), .val (.ref o86), .val (.int (0 : Int32)), .val (.ref o91), .val (.ref sq), .val (.ref sp), .val (.int (1 : Int32))]) C rfl at_308 rfl ?_
      refine s_iload (q := 312) C rfl at_310 rfl ?_
      refine s_if_eq_f (q := 315) C at_312 rfl (by decide) ?_
      refine s_aload (q := 317) C rfl rfl at_315 rfl ?_
      refine s_callV1 (q := 320) (argsL := []) (S := []) (W := 0) (cells' := 11) (slots' := 131) (a := sp) C g0 (G.1 _ (List.mem_of_getElem? (i := 180) rfl)) (G.1 _ (List.mem_of_getElem? (i := 181) rfl)) (s_nf (G.1 _ (List.mem_of_getElem? (i := 183) rfl))) (G.1 _ (List.mem_of_getElem? (i := 183) rfl)) (G.1 _ (List.mem_of_getElem? (i := 182) rfl)) (G.1 _ (List.mem_of_getElem? (i := 42) rfl)) (G.1 _ (List.mem_of_getElem? (i := 184) rfl)) (by decide) (rm_limit G O sp 1 g0 g2 g5 (by decide)) rfl (lenOf pd_25 rfl) rfl (by decide) (own_leb rfl) (by decide) rfl rfl (by decide) (by decide) (wl := []) (fun _ _ q => by rw [q.1]; exact Keep.refl _ _) all0 at_317 rfl ?_
      rintro _ h111 ⟨eh112, rfl⟩
      rw [eh112]
      show AtS p l e _ s m _ below meth c Z _ _ n0 _ _ _ h96 11 131 (mkF m 320 #[.val (.int ls), .val (.int y0), .val (.int y1), .val (.int y2), .val (.int (1 : Int32)), .val (.int c0), .val (.int c1), .val (.int c2), .val (.ref o86), .val (.int (0 : Int32)), .val (.ref o91), .val (.ref sq), .val (.ref sp), .val (.int (1 : Int32))] [(.long (if (0 : Int64) < (1 : Int64) then (9223372036854775807 : Int64) else (-9223372036854775808 : Int64)))])
      rw [show (if (0 : Int64) < (1 : Int64) then (9223372036854775807 : Int64) else (-9223372036854775808 : Int64)) = (9223372036854775807 : Int64) from by decide]
      refine s_ldc2J (q := 323) C (G.1 _ (List.mem_of_getElem? (i := 179) rfl)) at_320 rfl ?_
      refine s_lcmp (q := 324) (z := (0 : Int32)) C (by decide) at_323 rfl ?_
      refine s_if_ne_f (q := 327) C at_324 rfl (by decide) ?_
      refine s_iconst (q := 328) (v := (1 : Int32)) C (by rfl) at_327 rfl ?_
      refine s_goto (q := 332) C at_328 (by decide) (by decide) ?_
      refine s_istore (q := 334) (L' := #[.val (.int ls), .val (.int y0), .val (.int y1), .val (.int y2), .val (.int (1 : Int32)), .val (.int c0), .val (.int c1), .val (.int c2), .val (.ref o86), .val (.int (0 : Int32)), .val (.ref o91), .val (.ref sq), .val (.ref sp), .val (.int (1 : Int32))]) C rfl at_332 rfl ?_
      refine s_iload (q := 336) C rfl at_334 rfl ?_
      refine s_if_eq_f (q := 339) C at_336 rfl (by decide) ?_
      refine s_aload (q := 341) C rfl rfl at_339 rfl ?_
      refine s_callV1 (q := 344) (argsL := []) (S := []) (W := 0) (cells' := 11) (slots' := 131) (a := sq) C s0 (G.1 _ (List.mem_of_getElem? (i := 185) rfl)) (G.1 _ (List.mem_of_getElem? (i := 186) rfl)) (s_nf (G.1 _ (List.mem_of_getElem? (i := 188) rfl))) (G.1 _ (List.mem_of_getElem? (i := 188) rfl)) (G.1 _ (List.mem_of_getElem? (i := 187) rfl)) (G.1 _ (List.mem_of_getElem? (i := 36) rfl)) (G.1 _ (List.mem_of_getElem? (i := 189) rfl)) (by decide) (rm_g_lastReserved G O sq oe s2) rfl (lenOf pd_20 rfl) rfl (by decide) (own_leb rfl) (by decide) rfl rfl (by decide) (by decide) (wl := []) (fun _ _ q => by rw [q.1]; exact Keep.refl _ _) all0 at_341 rfl ?_
      rintro _ h113 ⟨eh114, rfl⟩
      rw [eh114]
      show AtS p l e _ s m _ below meth c Z _ _ n0 _ _ _ h96 11 131 (mkF m 344 #[.val (.int ls), .val (.int y0), .val (.int y1), .val (.int y2), .val (.int (1 : Int32)), .val (.int c0), .val (.int c1), .val (.int c2), .val (.ref o86), .val (.int (0 : Int32)), .val (.ref o91), .val (.ref sq), .val (.ref sp), .val (.int (1 : Int32))] [(.ref oe)])
      refine s_callV1 (q := 347) (argsL := []) (S := []) (W := 0) (cells' := 11) (slots' := 131) (a := oe) C o0 (G.1 _ (List.mem_of_getElem? (i := 190) rfl)) (G.1 _ (List.mem_of_getElem? (i := 191) rfl)) (s_nf (G.1 _ (List.mem_of_getElem? (i := 193) rfl))) (G.1 _ (List.mem_of_getElem? (i := 193) rfl)) (G.1 _ (List.mem_of_getElem? (i := 192) rfl)) (G.1 _ (List.mem_of_getElem? (i := 117) rfl)) (G.1 _ (List.mem_of_getElem? (i := 194) rfl)) (by decide) (rm_isPresent G O oe o1) rfl (lenOf pd_12 rfl) rfl (by decide) (own_leb rfl) (by decide) rfl rfl (by decide) (by decide) (wl := []) (fun _ _ q => by rw [q.1]; exact Keep.refl _ _) all0 at_344 rfl ?_
      rintro _ h115 ⟨eh116, rfl⟩
      rw [eh116]
      show AtS p l e _ s m _ below meth c Z _ _ n0 _ _ _ h96 11 131 (mkF m 347 #[.val (.int ls), .val (.int y0), .val (.int y1), .val (.int y2), .val (.int (1 : Int32)), .val (.int c0), .val (.int c1), .val (.int c2), .val (.ref o86), .val (.int (0 : Int32)), .val (.ref o91), .val (.ref sq), .val (.ref sp), .val (.int (1 : Int32))] [(.int (0 : Int32))])
      refine s_if_ne_f (q := 350) C at_347 rfl (by decide) ?_
      refine s_iconst (q := 351) (v := (1 : Int32)) C (by rfl) at_350 rfl ?_
      refine s_goto (q := 355) C at_351 (by decide) (by decide) ?_
      refine s_istore (q := 357) (L' := #[.val (.int ls), .val (.int y0), .val (.int y1), .val (.int y2), .val (.int (1 : Int32)), .val (.int c0), .val (.int c1), .val (.int c2), .val (.ref o86), .val (.int (0 : Int32)), .val (.ref o91), .val (.ref sq), .val (.ref sp), .val (.int (1 : Int32))]) C rfl at_355 rfl ?_
      refine s_iload (q := 359) C rfl at_357 rfl ?_
      exact s_retZ (z := (1 : Int32)) C G.el (t := .boolean) rfl (by simp) (by decide) at_359 (by decide) (by decide) rfl
    refine s_callS1 (q := 66) (argsL := [(.int c0)]) (S := []) (W := 0) (cells' := 1) (slots' := 1) C (G.1 _ (List.mem_of_getElem? (i := 1) rfl)) (G.1 _ (List.mem_of_getElem? (i := 2) rfl)) (G.1 _ (List.mem_of_getElem? (i := 3) rfl)) (G.1 _ (List.mem_of_getElem? (i := 4) rfl)) (by decide) (rm_ws G O c0) rfl (lenOf pd_1 rfl) rfl (by decide) (own_leb rfl) (by decide) rfl rfl (by decide) (by decide) (wl := []) (fun _ _ q => by rw [q.1]; exact Keep.refl _ _) all0 at_63 rfl ?_
    rintro _ h117 ⟨eh118, rfl⟩
    rw [eh118]
    show AtS p l e _ s m _ below meth c Z _ _ n0 _ _ _ h88 1 1 (mkF m 66 #[.val (.int ls), .val (.int y0), .val (.int y1), .val (.int y2), .val (.int (1 : Int32)), .val (.int c0), .val (.int c1), .val (.int c2), .val (.ref o86), .unset, .unset, .unset, .unset, .unset] [(.int (if own_isws c0 = true then (1 : Int32) else (0 : Int32)))])
    by_cases q0 : own_isws c0 = true
    · rw [show (if own_isws c0 = true then (1 : Int32) else (0 : Int32)) = (1 : Int32) from if_pos q0]
      refine s_istore (q := 68) (L' := #[.val (.int ls), .val (.int y0), .val (.int y1), .val (.int y2), .val (.int (1 : Int32)), .val (.int c0), .val (.int c1), .val (.int c2), .val (.ref o86), .val (.int (1 : Int32)), .unset, .unset, .unset, .unset]) C rfl at_66 rfl ?_
      refine s_goto (q := 169) C at_68 (by decide) (by decide) ?_
      refine s_iload (q := 171) C rfl at_169 rfl ?_
      refine s_if_eq_f (q := 174) C at_171 rfl (by decide) ?_
      refine s_iconst (q := 175) (v := (1 : Int32)) C (by rfl) at_174 rfl ?_
      exact s_retZ (z := (1 : Int32)) C G.el (t := .boolean) rfl (by simp) (by decide) at_175 (by decide) (by decide) rfl
    · rw [show (if own_isws c0 = true then (1 : Int32) else (0 : Int32)) = (0 : Int32) from if_neg q0]
      refine s_istore (q := 68) (L' := #[.val (.int ls), .val (.int y0), .val (.int y1), .val (.int y2), .val (.int (1 : Int32)), .val (.int c0), .val (.int c1), .val (.int c2), .val (.ref o86), .val (.int (0 : Int32)), .unset, .unset, .unset, .unset]) C rfl at_66 rfl ?_
      refine s_goto (q := 169) C at_68 (by decide) (by decide) ?_
      exact J (by simp [*])
  · rw [show (ls &&& (3 : Int32)) = (2 : Int32) from q]
    refine s_istore (q := 5) (L' := #[.val (.int ls), .val (.int y0), .val (.int y1), .val (.int y2), .val (.int (2 : Int32)), .unset, .unset, .unset, .unset, .unset, .unset, .unset, .unset, .unset]) C rfl at_3 rfl ?_
    refine s_iloadN (q := 6) C rfl at_5 rfl ?_
    refine s_sipush (q := 9) (v := (255 : Int32)) C (by rfl) at_6 rfl ?_
    refine s_iand (q := 10) C rfl at_9 rfl ?_
    refine s_i2c (q := 11) C rfl at_10 rfl ?_
    rw [show ((y0 &&& (255 : Int32)).toUInt32.toUInt16.toUInt32.toInt32) = (y0 &&& (255 : Int32)) from own_i2c (own_255 _)]
    generalize hc0 : (y0 &&& (255 : Int32)) = c0
    have r0 : ¬ c0 < 0 ∧ ¬ 255 < c0 := by rw [← hc0]; exact own_255 _
    refine s_istore (q := 13) (L' := #[.val (.int ls), .val (.int y0), .val (.int y1), .val (.int y2), .val (.int (2 : Int32)), .val (.int c0), .unset, .unset, .unset, .unset, .unset, .unset, .unset, .unset]) C rfl at_11 rfl ?_
    refine s_iloadN (q := 14) C rfl at_13 rfl ?_
    refine s_sipush (q := 17) (v := (255 : Int32)) C (by rfl) at_14 rfl ?_
    refine s_iand (q := 18) C rfl at_17 rfl ?_
    refine s_i2c (q := 19) C rfl at_18 rfl ?_
    rw [show ((y1 &&& (255 : Int32)).toUInt32.toUInt16.toUInt32.toInt32) = (y1 &&& (255 : Int32)) from own_i2c (own_255 _)]
    generalize hc1 : (y1 &&& (255 : Int32)) = c1
    have r1 : ¬ c1 < 0 ∧ ¬ 255 < c1 := by rw [← hc1]; exact own_255 _
    refine s_istore (q := 21) (L' := #[.val (.int ls), .val (.int y0), .val (.int y1), .val (.int y2), .val (.int (2 : Int32)), .val (.int c0), .val (.int c1), .unset, .unset, .unset, .unset, .unset, .unset, .unset]) C rfl at_19 rfl ?_
    refine s_iloadN (q := 22) C rfl at_21 rfl ?_
    refine s_sipush (q := 25) (v := (255 : Int32)) C (by rfl) at_22 rfl ?_
    refine s_iand (q := 26) C rfl at_25 rfl ?_
    refine s_i2c (q := 27) C rfl at_26 rfl ?_
    rw [show ((y2 &&& (255 : Int32)).toUInt32.toUInt16.toUInt32.toInt32) = (y2 &&& (255 : Int32)) from own_i2c (own_255 _)]
    generalize hc2 : (y2 &&& (255 : Int32)) = c2
    have r2 : ¬ c2 < 0 ∧ ¬ 255 < c2 := by rw [← hc2]; exact own_255 _
    refine s_istore (q := 29) (L' := #[.val (.int ls), .val (.int y0), .val (.int y1), .val (.int y2), .val (.int (2 : Int32)), .val (.int c0), .val (.int c1), .val (.int c2), .unset, .unset, .unset, .unset, .unset, .unset]) C rfl at_27 rfl ?_
    refine s_iload (q := 31) C rfl at_29 rfl ?_
    refine s_if_ne_t (q := 45) C at_31 (by decide) (by decide) (by decide) ?_
    refine s_iload (q := 47) C rfl at_45 rfl ?_
    refine s_iconst (q := 48) (v := (1 : Int32)) C (by rfl) at_47 rfl ?_
    refine s_icmp_ne_t (q := 71) C at_48 (by decide) (by decide) (by decide) ?_
    refine s_iload (q := 73) C rfl at_71 rfl ?_
    refine s_iconst (q := 74) (v := (2 : Int32)) C (by rfl) at_73 rfl ?_
    refine s_icmp_ne_f (q := 77) C at_74 rfl (by decide) ?_
    refine s_iconst (q := 78) (v := (2 : Int32)) C (by rfl) at_77 rfl ?_
    refine s_newArr (q := 80) (cap := 2) (cells' := 1) (slots' := 2) C (G.1 _ (List.mem_of_getElem? (i := 0) rfl)) rfl (by decide) (by decide) (by decide) rfl rfl (by decide) (by decide) at_78 rfl ?_
    intro h119 o120 g_o120 Eh119 V_o120
    replace V_o120 : Ar Z h119 o120 .char [(.int (0 : Int32)), (.int (0 : Int32))] := V_o120
    have ge_o120 : n0 ≤ o120 := by rw [g_o120]; exact Old_le O
    have sz_o120 : h0.size ≤ o120 := Nat.le_of_eq g_o120.symm
    have K121 : Keep h0 h119 [] := Keep.of_ext Eh119
    refine s_dup (q := 81) C rfl at_80 rfl ?_
    refine s_iconst (q := 82) (v := (0 : Int32)) C (by rfl) at_81 rfl ?_
    refine s_iload (q := 84) C rfl at_82 rfl ?_
    refine s_castore (q := 85) (z := c0) (i := 0) C (own_nar r0.1 r0.2) V_o120 rfl (own_ltb rfl) ge_o120 at_84 rfl ?_
    intro h122 Wh122 Vh122
    have K123 := K121.wr Wh122 (Or.inr sz_o120)
    refine s_dup (q := 86) C rfl at_85 rfl ?_
    refine s_iconst (q := 87) (v := (1 : Int32)) C (by rfl) at_86 rfl ?_
    refine s_iload (q := 89) C rfl at_87 rfl ?_
    refine s_castore (q := 90) (z := c1) (i := 1) C (own_nar r1.1 r1.2) Vh122 rfl (own_ltb rfl) ge_o120 at_89 rfl ?_
    intro h124 Wh124 Vh124
    have K125 := K123.wr Wh124 (Or.inr sz_o120)
    replace O := Old_k0 O K125
    have V1 : Ar Z h124 o120 .char (List.map Value.int [c0, c1]) := Vh124
    refine s_astore (q := 92) (L' := #[.val (.int ls), .val (.int y0), .val (.int y1), .val (.int y2), .val (.int (2 : Int32)), .val (.int c0), .val (.int c1), .val (.int c2), .val (.ref o120), .unset, .unset, .unset, .unset, .unset]) C rfl rfl at_90 rfl ?_
    refine s_iload (q := 94) C rfl at_92 rfl ?_
    have J : ¬ [c0, c1].all own_isws = true → AtS p l e room_1 s m #[(.int ls), (.int y0), (.int y1), (.int y2)] below meth c Z ([] : List (String × Nat)) "com/example/libhilo/libhilo/StoredSequenceUndefinedPinLaw" n0 (fun v h => v = some (.int 1)) h0.size [o120] h124 1 2 (mkF m 169 #[.val (.int ls), .val (.int y0), .val (.int y1), .val (.int y2), .val (.int (2 : Int32)), .val (.int c0), .val (.int c1), .val (.int c2), .val (.ref o120), .val (.int (0 : Int32)), .unset, .unset, .unset, .unset] []) := by
      intro hb
      refine s_iload (q := 171) C rfl at_169 rfl ?_
      refine s_if_eq_t (q := 176) C at_171 (by decide) (by decide) (by decide) ?_
      refine s_new (q := 179) (cells' := 2) (slots' := 6) C (G.1 _ (List.mem_of_getElem? (i := 5) rfl)) (G.1 _ (List.mem_of_getElem? (i := 6) rfl)) (G.1 _ (List.mem_of_getElem? (i := 7) rfl)) rfl rfl (by decide) (by decide) at_176 rfl ?_
      intro h126 o127 g_o127 Eh126 A_o127 D_o127
      have F_coder_o127 : Fld Z h126 o127 "java/lang/String" "coder" "B" (.int (0 : Int32)) := D_o127 (Or.inr (G.1 _ (List.mem_of_getElem? (i := 31) rfl))) (ty := .byte) (by decide)
      have F_value_o127 : Fld Z h126 o127 "java/lang/String" "value" "[B" .null := D_o127 (Or.inr (G.1 _ (List.mem_of_getElem? (i := 33) rfl))) (ty := (.array .byte)) (by decide)
      have ge_o127 : n0 ≤ o127 := by rw [g_o127]; exact Old_le O
      have K128 : Keep h124 h126 [] := Keep.of_ext Eh126
      have O129 := Old_k0 O K128
      refine s_dup (q := 180) C rfl at_179 rfl ?_
      refine s_aload (q := 182) C rfl rfl at_180 rfl ?_
      have hL_S1 : L1 [c0, c1] := (own_L1c r0 (own_L1c r1 (fun c hc => absurd hc List.not_mem_nil)))
      refine s_callI1 (q := 185) (argsL := [(.ref o120)]) (S := [(.ref o127)]) (W := 1) (cells' := 3) (slots' := 9) (a := o127) C rfl (G.1 _ (List.mem_of_getElem? (i := 8) rfl)) (G.1 _ (List.mem_of_getElem? (i := 9) rfl)) (G.1 _ (List.mem_of_getElem? (i := 7) rfl)) (G.1 _ (List.mem_of_getElem? (i := 10) rfl)) (by decide) (rm_strinit G O129 o127 o120 [c0, c1] A_o127 F_value_o127 F_coder_o127 ge_o127 (Ar_k0 V1 K128) hL_S1 (own_leb rfl) (by simp)) rfl (lenOf pd_2 rfl) rfl (by decide) (own_leb rfl) (by decide) rfl rfl (by decide) (by decide) (wl := [o127]) (fun _ _ q => q.1) (allS (SfOk.mem (by simp)) (all0)) at_182 rfl ?_
      rintro _ h130 ⟨Kh130, rfl, S1⟩
      show AtS p l e _ s m _ below meth c Z _ _ n0 _ _ _ h130 3 9 (mkF m 185 #[.val (.int ls), .val (.int y0), .val (.int y1), .val (.int y2), .val (.int (2 : Int32)), .val (.int c0), .val (.int c1), .val (.int c2), .val (.ref o120), .val (.int (0 : Int32)), .unset, .unset, .unset, .unset] [(.ref o127)])
      have K131 : Keep h124 h130 [] := own_K1 K128 Kh130 (Nat.le_of_eq g_o127.symm)
      replace V1 := Ar_k0 V1 K131
      replace O := Old_k0 O K131
      refine s_astore (q := 187) (L' := #[.val (.int ls), .val (.int y0), .val (.int y1), .val (.int y2), .val (.int (2 : Int32)), .val (.int c0), .val (.int c1), .val (.int c2), .val (.ref o120), .val (.int (0 : Int32)), .val (.ref o127), .unset, .unset, .unset]) C rfl rfl at_185 rfl ?_
      refine s_aload (q := 189) C rfl rfl at_187 rfl ?_
      refine s_callS2 (q := 192) (argsL := [(.ref o127)]) (S := []) (W := 0) (cells' := 11) (slots' := 132) C G.el (G.1 _ (List.mem_of_getElem? (i := 34) rfl)) (G.1 _ (List.mem_of_getElem? (i := 35) rfl)) (G.1 _ (List.mem_of_getElem? (i := 36) rfl)) (G.1 _ (List.mem_of_getElem? (i := 37) rfl)) (by decide) (rm_undef G O o127 [c0, c1] S1 hb) rfl (lenOf pd_8 rfl) rfl (by decide) (own_leb rfl) (by decide) rfl rfl (by decide) (by decide) at_189 rfl ?_
      rintro _ h132 ⟨Kh132, sq, sp, oe, rfl, s0, s1, s2, g0, g1, g2, g3, g4, g5, o0, o1⟩
      show AtS p l e _ s m _ below meth c Z _ _ n0 _ _ _ h132 11 132 (mkF m 192 #[.val (.int ls), .val (.int y0), .val (.int y1), .val (.int y2), .val (.int (2 : Int32)), .val (.int c0), .val (.int c1), .val (.int c2), .val (.ref o120), .val (.int (0 : Int32)), .val (.ref o127), .unset, .unset, .unset] [(.ref sq)])
      replace V1 := Ar_k0 V1 Kh132
      replace S1 := Str_k0 S1 Kh132
      replace O := Old_k0 O Kh132
      refine s_astore (q := 194) (L' := #[.val (.int ls), .val (.int y0), .val (.int y1), .val (.int y2), .val (.int (2 : Int32)), .val (.int c0), .val (.int c1), .val (.int c2), .val (.ref o120), .val (.int (0 : Int32)), .val (.ref o127), .val (.ref sq), .unset, .unset]) C rfl rfl at_192 rfl ?_
      refine s_aload (q := 196) C rfl rfl at_194 rfl ?_
      refine s_callV1 (q := 199) (argsL := []) (S := []) (W := 0) (cells' := 11) (slots' := 132) (a := sq) C s0 (G.1 _ (List.mem_of_getElem? (i := 135) rfl)) (G.1 _ (List.mem_of_getElem? (i := 136) rfl)) (s_nf (G.1 _ (List.mem_of_getElem? (i := 138) rfl))) (G.1 _ (List.mem_of_getElem? (i := 138) rfl)) (G.1 _ (List.mem_of_getElem? (i := 137) rfl)) (G.1 _ (List.mem_of_getElem? (i := 36) rfl)) (G.1 _ (List.mem_of_getElem? (i := 139) rfl)) (by decide) (rm_g_definition G O sq sp s1) rfl (lenOf pd_22 rfl) rfl (by decide) (own_leb rfl) (by decide) rfl rfl (by decide) (by decide) (wl := []) (fun _ _ q => by rw [q.1]; exact Keep.refl _ _) all0 at_196 rfl ?_
      rintro _ h133 ⟨eh134, rfl⟩
      rw [eh134]
      show AtS p l e _ s m _ below meth c Z _ _ n0 _ _ _ h132 11 132 (mkF m 199 #[.val (.int ls), .val (.int y0), .val (.int y1), .val (.int y2), .val (.int (2 : Int32)), .val (.int c0), .val (.int c1), .val (.int c2), .val (.ref o120), .val (.int (0 : Int32)), .val (.ref o127), .val (.ref sq), .unset, .unset] [(.ref sp)])
      refine s_astore (q := 201) (L' := #[.val (.int ls), .val (.int y0), .val (.int y1), .val (.int y2), .val (.int (2 : Int32)), .val (.int c0), .val (.int c1), .val (.int c2), .val (.ref o120), .val (.int (0 : Int32)), .val (.ref o127), .val (.ref sq), .val (.ref sp), .unset]) C rfl rfl at_199 rfl ?_
      refine s_aload (q := 203) C rfl rfl at_201 rfl ?_
      refine s_ifnonnull_t (q := 208) C at_203 (by decide) (by decide) ?_
      refine s_aload (q := 210) C rfl rfl at_208 rfl ?_
      refine s_callV1 (q := 213) (argsL := []) (S := []) (W := 0) (cells' := 11) (slots' := 132) (a := sp) C g0 (G.1 _ (List.mem_of_getElem? (i := 140) rfl)) (G.1 _ (List.mem_of_getElem? (i := 141) rfl)) (s_nf (G.1 _ (List.mem_of_getElem? (i := 143) rfl))) (G.1 _ (List.mem_of_getElem? (i := 143) rfl)) (G.1 _ (List.mem_of_getElem? (i := 142) rfl)) (G.1 _ (List.mem_of_getElem? (i := 42) rfl)) (G.1 _ (List.mem_of_getElem? (i := 144) rfl)) (by decide) (rm_g_name G O sp o127 g1) rfl (lenOf pd_23 rfl) rfl (by decide) (own_leb rfl) (by decide) rfl rfl (by decide) (by decide) (wl := []) (fun _ _ q => by rw [q.1]; exact Keep.refl _ _) all0 at_210 rfl ?_
      rintro _ h135 ⟨eh136, rfl⟩
      rw [eh136]
      show AtS p l e _ s m _ below meth c Z _ _ n0 _ _ _ h132 11 132 (mkF m 213 #[.val (.int ls), .val (.int y0), .val (.int y1), .val (.int y2), .val (.int (2 : Int32)), .val (.int c0), .val (.int c1), .val (.int c2), .val (.ref o120), .val (.int (0 : Int32)), .val (.ref o127), .val (.ref sq), .val (.ref sp), .unset] [(.ref o127)])
      refine s_aload (q := 215) C rfl rfl at_213 rfl ?_
      refine s_callV1 (q := 218) (argsL := [(.ref o127)]) (S := []) (W := 0) (cells' := 11) (slots' := 132) (a := o127) C S1.1 (G.1 _ (List.mem_of_getElem? (i := 145) rfl)) (G.1 _ (List.mem_of_getElem? (i := 146) rfl)) (s_nf (G.1 _ (List.mem_of_getElem? (i := 148) rfl))) (G.1 _ (List.mem_of_getElem? (i := 148) rfl)) (G.1 _ (List.mem_of_getElem? (i := 147) rfl)) (G.1 _ (List.mem_of_getElem? (i := 7) rfl)) (G.1 _ (List.mem_of_getElem? (i := 149) rfl)) (by decide) (rm_eqSame G O o127) rfl (lenOf pd_24 rfl) rfl (by decide) (own_leb rfl) (by decide) rfl rfl (by decide) (by decide) (wl := []) (fun _ _ q => by rw [q.1]; exact Keep.refl _ _) all0 at_215 rfl ?_
      rintro _ h137 ⟨eh138, rfl⟩
      rw [eh138]
      show AtS p l e _ s m _ below meth c Z _ _ n0 _ _ _ h132 11 132 (mkF m 218 #[.val (.int ls), .val (.int y0), .val (.int y1), .val (.int y2), .val (.int (2 : Int32)), .val (.int c0), .val (.int c1), .val (.int c2), .val (.ref o120), .val (.int (0 : Int32)), .val (.ref o127), .val (.ref sq), .val (.ref sp), .unset] [(.int (1 : Int32))])
      refine s_istore (q := 220) (L' := #[.val (.int ls), .val (.int y0), .val (.int y1), .val (.int y2), .val (.int (2 : Int32)), .val (.int c0), .val (.int c1), .val (.int c2), .val (.ref o120), .val (.int (0 : Int32)), .val (.ref o127), .val (.ref sq), .val (.ref sp), .val (.int (1 : Int32))]) C rfl at_218 rfl ?_
      refine s_iload (q := 222) C rfl at_220 rfl ?_
      refine s_if_eq_f (q := 225) C at_222 rfl (by decide) ?_
      refine s_aload (q := 227) C rfl rfl at_225 rfl ?_
      refine s_callV1 (q := 230) (argsL := []) (S := []) (W := 0) (cells' := 11) (slots' := 132) (a := sp) C g0 (G.1 _ (List.mem_of_getElem? (i := 150) rfl)) (G.1 _ (List.mem_of_getElem? (i := 151) rfl)) (s_nf (G.1 _ (List.mem_of_getElem? (i := 153) rfl))) (G.1 _ (List.mem_of_getElem? (i := 153) rfl)) (G.1 _ (List.mem_of_getElem? (i := 152) rfl)) (G.1 _ (List.mem_of_getElem? (i := 42) rfl)) (G.1 _ (List.mem_of_getElem? (i := 154) rfl)) (by decide) (rm_g_increment G O sp 1 g2) rfl (lenOf pd_25 rfl) rfl (by decide) (own_leb rfl) (by decide) rfl rfl (by decide) (by decide) (wl := []) (fun _ _ q => by rw [q.1]; exact Keep.refl _ _) all0 at_227 rfl ?_
      rintro _ h139 ⟨eh140, rfl⟩
      rw [eh140]
      show AtS p l e _ s m _ below meth c Z _ _ n0 _ _ _ h132 11 132 (mkF m 230 #[.val (.int ls), .val (.int y0), .val (.int y1), .val (.int y2), .val (.int (2 : Int32)), .val (.int c0), .val (.int c1), .val (.int c2), .val (.ref o120), .val (.int (0 : Int32)), .val (.ref o127), .val (.ref sq), .val (.ref sp), .val (.int (1 : Int32))] [(.long (1 : Int64))])
      refine s_lconst (q := 231) (v := (1 : Int64)) C (by rfl) at_230 rfl ?_
      refine s_lcmp (q := 232) (z := (0 : Int32)) C (by decide) at_231 rfl ?_
      refine s_if_ne_f (q := 235) C at_232 rfl (by decide) ?_
      refine s_iconst (q := 236) (v := (1 : Int32)) C (by rfl) at_235 rfl ?_
      refine s_goto (q := 240) C at_236 (by decide) (by decide) ?_
      refine s_istore (q := 242) (L' := #[.val (.int ls), .val (.int y0), .val (.int y1), .val (.int y2), .val (.int (2 : Int32)), .val (.int c0), .val (.int c1), .val (.int c2), .val (.ref o120), .val (.int (0 : Int32)), .val (.ref o127), .val (.ref sq), .val (.ref sp), .val (.int (1 : Int32))]) C rfl at_240 rfl ?_
      refine s_iload (q := 244) C rfl at_242 rfl ?_
      refine s_if_eq_f (q := 247) C at_244 rfl (by decide) ?_
      refine s_aload (q := 249) C rfl rfl at_247 rfl ?_
      refine s_callV1 (q := 252) (argsL := []) (S := []) (W := 0) (cells' := 11) (slots' := 132) (a := sp) C g0 (G.1 _ (List.mem_of_getElem? (i := 155) rfl)) (G.1 _ (List.mem_of_getElem? (i := 156) rfl)) (s_nf (G.1 _ (List.mem_of_getElem? (i := 158) rfl))) (G.1 _ (List.mem_of_getElem? (i := 158) rfl)) (G.1 _ (List.mem_of_getElem? (i := 157) rfl)) (G.1 _ (List.mem_of_getElem? (i := 42) rfl)) (G.1 _ (List.mem_of_getElem? (i := 159) rfl)) (by decide) (rm_start G O sp 1 g0 g2 g3 g4 g5) rfl (lenOf pd_25 rfl) rfl (by decide) (own_leb rfl) (by decide) rfl rfl (by decide) (by decide) (wl := []) (fun _ _ q => by rw [q.1]; exact Keep.refl _ _) all0 at_249 rfl ?_
      rintro _ h141 ⟨eh142, rfl⟩
      rw [eh142]
      show AtS p l e _ s m _ below meth c Z _ _ n0 _ _ _ h132 11 132 (mkF m 252 #[.val (.int ls), .val (.int y0), .val (.int y1), .val (.int y2), .val (.int (2 : Int32)), .val (.int c0), .val (.int c1), .val (.int c2), .val (.ref o120), .val (.int (0 : Int32)), .val (.ref o127), .val (.ref sq), .val (.ref sp), .val (.int (1 : Int32))] [(.long (if (0 : Int64) < (1 : Int64) then (if (0 : Int64) < (1 : Int64) then (1 : Int64) else (-9223372036854775808 : Int64)) else (if (0 : Int64) < (1 : Int64) then (9223372036854775807 : Int64) else (-1 : Int64))))])
      rw [show (if (0 : Int64) < (1 : Int64) then (if (0 : Int64) < (1 : Int64) then (1 : Int64) else (-9223372036854775808 : Int64)) else (if (0 : Int64) < (1 : Int64) then (9223372036854775807 : Int64) else (-1 : Int64))) = (1 : Int64) from by decide]
      refine s_lconst (q := 253) (v := (1 : Int64)) C (by rfl) at_252 rfl ?_
      refine s_lcmp (q := 254) (z := (0 : Int32)) C (by decide) at_253 rfl ?_
      refine s_if_ne_f (q := 257) C at_254 rfl (by decide) ?_
      refine s_iconst (q := 258) (v := (1 : Int32)) C (by rfl) at_257 rfl ?_
      refine s_goto (q := 262) C at_258 (by decide) (by decide) ?_
      refine s_istore (q := 264) (L' := #[.val (.int ls), .val (.int y0), .val (.int y1), .val (.int y2), .val (.int (2 : Int32)), .val (.int c0), .val (.int c1), .val (.int c2), .val (.ref o120), .val (.int (0 : Int32)), .val (.ref o127), .val (.ref sq), .val (.ref sp), .val (.int (1 : Int32))]) C rfl at_262 rfl ?_
      refine s_iload (q := 266) C rfl at_264 rfl ?_
      refine s_if_eq_f (q := 269) C at_266 rfl (by decide) ?_
      refine s_aload (q := 271) C rfl rfl at_269 rfl ?_
      refine s_callV1 (q := 274) (argsL := []) (S := []) (W := 0) (cells' := 11) (slots' := 132) (a := sp) C g0 (G.1 _ (List.mem_of_getElem? (i := 177) rfl)) (G.1 _ (List.mem_of_getElem? (i := 161) rfl)) (s_nf (G.1 _ (List.mem_of_getElem? (i := 163) rfl))) (G.1 _ (List.mem_of_getElem? (i := 163) rfl)) (G.1 _ (List.mem_of_getElem? (i := 162) rfl)) (G.1 _ (List.mem_of_getElem? (i := 42) rfl)) (G.1 _ (List.mem_of_getElem? (i := 164) rfl)) (by decide) (rm_minimum G O sp 1 g0 g2 g4) rfl (lenOf pd_25 rfl) rfl (by decide) (own_leb rfl) (by decide) rfl rfl (by decide) (by decide) (wl := []) (fun _ _ q => by rw [q.1]; exact Keep.refl _ _) all0 at_271 rfl ?_
      rintro _ h143 ⟨eh144, rfl⟩
      rw [eh144]
      show AtS p l e _ s m _ below meth c Z _ _ n0 _ _ _ h132 11 132 (mkF m 274 #[.val (.int ls), .val (.int y0), .val (.int y1), .val (.int y2), .val (.int (2 : Int32)), .val (.int c0), .val (.int c1), .val (.int c2), .val (.ref o120), .val (.int (0 : Int32)), .val (.ref o127), .val (.ref sq), .val (.ref sp), .val (.int (1 : Int32))] [(.long (if (0 : Int64) < (1 : Int64) then (1 : Int64) else (-9223372036854775808 : Int64)))])
      rw [show (if (0 : Int64) < (1 : Int64) then (1 : Int64) else (-9223372036854775808 : Int64)) = (1 : Int64) from by decide]
      refine s_lconst (q := 275) (v := (1 : Int64)) C (by rfl) at_274 rfl ?_
      refine s_lcmp (q := 276) (z := (0 : Int32)) C (by decide) at_275 rfl ?_
      refine s_if_ne_f (q := 279) C at_276 rfl (by decide) ?_
      refine s_iconst (q := 280) (v := (1 : Int32)) C (by rfl) at_279 rfl ?_
      refine s_goto (q := 284) C at_280 (by decide) (by decide) ?_
      refine s_istore (q := 286) (L' := #[.val (.int ls), .val (.int y0), .val (.int y1), .val (.int y2), .val (.int (2 : Int32)), .val (.int c0), .val (.int c1), .val (.int c2), .val (.ref o120), .val (.int (0 : Int32)), .val (.ref o127), .val (.ref sq), .val (.ref sp), .val (.int (1 : Int32))]) C rfl at_284 rfl ?_
      refine s_iload (q := 288) C rfl at_286 rfl ?_
      refine s_if_eq_f (q := 291) C at_288 rfl (by decide) ?_
      refine s_aload (q := 293) C rfl rfl at_291 rfl ?_
      refine s_callV1 (q := 296) (argsL := []) (S := []) (W := 0) (cells' := 11) (slots' := 132) (a := sp) C g0 (G.1 _ (List.mem_of_getElem? (i := 178) rfl)) (G.1 _ (List.mem_of_getElem? (i := 171) rfl)) (s_nf (G.1 _ (List.mem_of_getElem? (i := 173) rfl))) (G.1 _ (List.mem_of_getElem? (i := 173) rfl)) (G.1 _ (List.mem_of_getElem? (i := 172) rfl)) (G.1 _ (List.mem_of_getElem? (i := 42) rfl)) (G.1 _ (List.mem_of_getElem? (i := 174) rfl)) (by decide) (rm_maximum G O sp 1 g0 g2 g5) rfl (lenOf pd_25 rfl) rfl (by decide) (own_leb rfl) (by decide) rfl rfl (by decide) (by decide) (wl := []) (fun _ _ q => by rw [q.1]; exact Keep.refl _ _) all0 at_293 rfl ?_
      rintro _ h145 ⟨eh146, rfl⟩
      rw [eh146]
      show AtS p l e _ s m _ below meth c Z _ _ n0 _ _ _ h132 11 132 (mkF m 296 #[.val (.int ls), .val (.int y0), .val (.int y1), .val (.int y2), .val (.int (2 : Int32)), .val (.int c0), .val (.int c1), .val (.int c2), .val (.ref o120), .val (.int (0 : Int32)), .val (.ref o127), .val (.ref sq), .val (.ref sp), .val (.int (1 : Int32))] [(.long (if (0 : Int64) < (1 : Int64) then (9223372036854775807 : Int64) else (-1 : Int64)))])
      rw [show (if (0 : Int64) < (1 : Int64) then (9223372036854775807 : Int64) else (-1 : Int64)) = (9223372036854775807 : Int64) from by decide]
      refine s_ldc2J (q := 299) C (G.1 _ (List.mem_of_getElem? (i := 179) rfl)) at_296 rfl ?_
      refine s_lcmp (q := 300) (z := (0 : Int32)) C (by decide) at_299 rfl ?_
      refine s_if_ne_f (q := 303) C at_300 rfl (by decide) ?_
      refine s_iconst (q := 304) (v := (1 : Int32)) C (by rfl) at_303 rfl ?_
      refine s_goto (q := 308) C at_304 (by decide) (by decide) ?_
      refine s_istore (q := 310) (L' := #[.val (.int ls), .val (.int y0), .val (.int y1), .val (.int y2), .val (.int (2 : Int32)), .val (.int c0), .val (.int c1), .val (.int c2), .val (.ref o120), .val (.int (0 : Int32)), .val (.ref o127), .val (.ref sq), .val (.ref sp), .val (.int (1 : Int32))]) C rfl at_308 rfl ?_
      refine s_iload (q := 312) C rfl at_310 rfl ?_
      refine s_if_eq_f (q := 315) C at_312 rfl (by decide) ?_
      refine s_aload (q := 317) C rfl rfl at_315 rfl ?_
      refine s_callV1 (q := 320) (argsL := []) (S := []) (W := 0) (cells' := 11) (slots' := 132) (a := sp) C g0 (G.1 _ (List.mem_of_getElem? (i := 180) rfl)) (G.1 _ (List.mem_of_getElem? (i := 181) rfl)) (s_nf (G.1 _ (List.mem_of_getElem? (i := 183) rfl))) (G.1 _ (List.mem_of_getElem? (i := 183) rfl)) (G.1 _ (List.mem_of_getElem? (i := 182) rfl)) (G.1 _ (List.mem_of_getElem? (i := 42) rfl)) (G.1 _ (List.mem_of_getElem? (i := 184) rfl)) (by decide) (rm_limit G O sp 1 g0 g2 g5 (by decide)) rfl (lenOf pd_25 rfl) rfl (by decide) (own_leb rfl) (by decide) rfl rfl (by decide) (by decide) (wl := []) (fun _ _ q => by rw [q.1]; exact Keep.refl _ _) all0 at_317 rfl ?_
      rintro _ h147 ⟨eh148, rfl⟩
      rw [eh148]
      show AtS p l e _ s m _ below meth c Z _ _ n0 _ _ _ h132 11 132 (mkF m 320 #[.val (.int ls), .val (.int y0), .val (.int y1), .val (.int y2), .val (.int (2 : Int32)), .val (.int c0), .val (.int c1), .val (.int c2), .val (.ref o120), .val (.int (0 : Int32)), .val (.ref o127), .val (.ref sq), .val (.ref sp), .val (.int (1 : Int32))] [(.long (if (0 : Int64) < (1 : Int64) then (9223372036854775807 : Int64) else (-9223372036854775808 : Int64)))])
      rw [show (if (0 : Int64) < (1 : Int64) then (9223372036854775807 : Int64) else (-9223372036854775808 : Int64)) = (9223372036854775807 : Int64) from by decide]
      refine s_ldc2J (q := 323) C (G.1 _ (List.mem_of_getElem? (i := 179) rfl)) at_320 rfl ?_
      refine s_lcmp (q := 324) (z := (0 : Int32)) C (by decide) at_323 rfl ?_
      refine s_if_ne_f (q := 327) C at_324 rfl (by decide) ?_
      refine s_iconst (q := 328) (v := (1 : Int32)) C (by rfl) at_327 rfl ?_
      refine s_goto (q := 332) C at_328 (by decide) (by decide) ?_
      refine s_istore (q := 334) (L' := #[.val (.int ls), .val (.int y0), .val (.int y1), .val (.int y2), .val (.int (2 : Int32)), .val (.int c0), .val (.int c1), .val (.int c2), .val (.ref o120), .val (.int (0 : Int32)), .val (.ref o127), .val (.ref sq), .val (.ref sp), .val (.int (1 : Int32))]) C rfl at_332 rfl ?_
      refine s_iload (q := 336) C rfl at_334 rfl ?_
      refine s_if_eq_f (q := 339) C at_336 rfl (by decide) ?_
      refine s_aload (q := 341) C rfl rfl at_339 rfl ?_
      refine s_callV1 (q := 344) (argsL := []) (S := []) (W := 0) (cells' := 11) (slots' := 132) (a := sq) C s0 (G.1 _ (List.mem_of_getElem? (i := 185) rfl)) (G.1 _ (List.mem_of_getElem? (i := 186) rfl)) (s_nf (G.1 _ (List.mem_of_getElem? (i := 188) rfl))) (G.1 _ (List.mem_of_getElem? (i := 188) rfl)) (G.1 _ (List.mem_of_getElem? (i := 187) rfl)) (G.1 _ (List.mem_of_getElem? (i := 36) rfl)) (G.1 _ (List.mem_of_getElem? (i := 189) rfl)) (by decide) (rm_g_lastReserved G O sq oe s2) rfl (lenOf pd_20 rfl) rfl (by decide) (own_leb rfl) (by decide) rfl rfl (by decide) (by decide) (wl := []) (fun _ _ q => by rw [q.1]; exact Keep.refl _ _) all0 at_341 rfl ?_
      rintro _ h149 ⟨eh150, rfl⟩
      rw [eh150]
      show AtS p l e _ s m _ below meth c Z _ _ n0 _ _ _ h132 11 132 (mkF m 344 #[.val (.int ls), .val (.int y0), .val (.int y1), .val (.int y2), .val (.int (2 : Int32)), .val (.int c0), .val (.int c1), .val (.int c2), .val (.ref o120), .val (.int (0 : Int32)), .val (.ref o127), .val (.ref sq), .val (.ref sp), .val (.int (1 : Int32))] [(.ref oe)])
      refine s_callV1 (q := 347) (argsL := []) (S := []) (W := 0) (cells' := 11) (slots' := 132) (a := oe) C o0 (G.1 _ (List.mem_of_getElem? (i := 190) rfl)) (G.1 _ (List.mem_of_getElem? (i := 191) rfl)) (s_nf (G.1 _ (List.mem_of_getElem? (i := 193) rfl))) (G.1 _ (List.mem_of_getElem? (i := 193) rfl)) (G.1 _ (List.mem_of_getElem? (i := 192) rfl)) (G.1 _ (List.mem_of_getElem? (i := 117) rfl)) (G.1 _ (List.mem_of_getElem? (i := 194) rfl)) (by decide) (rm_isPresent G O oe o1) rfl (lenOf pd_12 rfl) rfl (by decide) (own_leb rfl) (by decide) rfl rfl (by decide) (by decide) (wl := []) (fun _ _ q => by rw [q.1]; exact Keep.refl _ _) all0 at_344 rfl ?_
      rintro _ h151 ⟨eh152, rfl⟩
      rw [eh152]
      show AtS p l e _ s m _ below meth c Z _ _ n0 _ _ _ h132 11 132 (mkF m 347 #[.val (.int ls), .val (.int y0), .val (.int y1), .val (.int y2), .val (.int (2 : Int32)), .val (.int c0), .val (.int c1), .val (.int c2), .val (.ref o120), .val (.int (0 : Int32)), .val (.ref o127), .val (.ref sq), .val (.ref sp), .val (.int (1 : Int32))] [(.int (0 : Int32))])
      refine s_if_ne_f (q := 350) C at_347 rfl (by decide) ?_
      refine s_iconst (q := 351) (v := (1 : Int32)) C (by rfl) at_350 rfl ?_
      refine s_goto (q := 355) C at_351 (by decide) (by decide) ?_
      refine s_istore (q := 357) (L' := #[.val (.int ls), .val (.int y0), .val (.int y1), .val (.int y2), .val (.int (2 : Int32)), .val (.int c0), .val (.int c1), .val (.int c2), .val (.ref o120), .val (.int (0 : Int32)), .val (.ref o127), .val (.ref sq), .val (.ref sp), .val (.int (1 : Int32))]) C rfl at_355 rfl ?_
      refine s_iload (q := 359) C rfl at_357 rfl ?_
      exact s_retZ (z := (1 : Int32)) C G.el (t := .boolean) rfl (by simp) (by decide) at_359 (by decide) (by decide) rfl
    refine s_callS1 (q := 97) (argsL := [(.int c0)]) (S := []) (W := 0) (cells' := 1) (slots' := 2) C (G.1 _ (List.mem_of_getElem? (i := 1) rfl)) (G.1 _ (List.mem_of_getElem? (i := 2) rfl)) (G.1 _ (List.mem_of_getElem? (i := 3) rfl)) (G.1 _ (List.mem_of_getElem? (i := 4) rfl)) (by decide) (rm_ws G O c0) rfl (lenOf pd_1 rfl) rfl (by decide) (own_leb rfl) (by decide) rfl rfl (by decide) (by decide) (wl := []) (fun _ _ q => by rw [q.1]; exact Keep.refl _ _) all0 at_94 rfl ?_
    rintro _ h153 ⟨eh154, rfl⟩
    rw [eh154]
    show AtS p l e _ s m _ below meth c Z _ _ n0 _ _ _ h124 1 2 (mkF m 97 #[.val (.int ls), .val (.int y0), .val (.int y1), .val (.int y2), .val (.int (2 : Int32)), .val (.int c0), .val (.int c1), .val (.int c2), .val (.ref o120), .unset, .unset, .unset, .unset, .unset] [(.int (if own_isws c0 = true then (1 : Int32) else (0 : Int32)))])
    by_cases q0 : own_isws c0 = true
    · rw [show (if own_isws c0 = true then (1 : Int32) else (0 : Int32)) = (1 : Int32) from if_pos q0]
      refine s_if_eq_f (q := 100) C at_97 rfl (by decide) ?_
      refine s_iload (q := 102) C rfl at_100 rfl ?_
      refine s_callS1 (q := 105) (argsL := [(.int c1)]) (S := []) (W := 0) (cells' := 1) (slots' := 2) C (G.1 _ (List.mem_of_getElem? (i := 1) rfl)) (G.1 _ (List.mem_of_getElem? (i := 2) rfl)) (G.1 _ (List.mem_of_getElem? (i := 3) rfl)) (G.1 _ (List.mem_of_getElem? (i := 4) rfl)) (by decide) (rm_ws G O c1) rfl (lenOf pd_1 rfl) rfl (by decide) (own_leb rfl) (by decide) rfl rfl (by decide) (by decide) (wl := []) (fun _ _ q => by rw [q.1]; exact Keep.refl _ _) all0 at_102 rfl ?_
      rintro _ h155 ⟨eh156, rfl⟩
      rw [eh156]
      show AtS p l e _ s m _ below meth c Z _ _ n0 _ _ _ h124 1 2 (mkF m 105 #[.val (.int ls), .val (.int y0), .val (.int y1), .val (.int y2), .val (.int (2 : Int32)), .val (.int c0), .val (.int c1), .val (.int c2), .val (.ref o120), .unset, .unset, .unset, .unset, .unset] [(.int (if own_isws c1 = true then (1 : Int32) else (0 : Int32)))])
      by_cases q1 : own_isws c1 = true
      · rw [show (if own_isws c1 = true then (1 : Int32) else (0 : Int32)) = (1 : Int32) from if_pos q1]
        refine s_if_eq_f (q := 108) C at_105 rfl (by decide) ?_
        refine s_iconst (q := 109) (v := (1 : Int32)) C (by rfl) at_108 rfl ?_
        refine s_goto (q := 113) C at_109 (by decide) (by decide) ?_
        refine s_istore (q := 115) (L' := #[.val (.int ls), .val (.int y0), .val (.int y1), .val (.int y2), .val (.int (2 : Int32)), .val (.int c0), .val (.int c1), .val (.int c2), .val (.ref o120), .val (.int (1 : Int32)), .unset, .unset, .unset, .unset]) C rfl at_113 rfl ?_
        refine s_goto (q := 169) C at_115 (by decide) (by decide) ?_
        refine s_iload (q := 171) C rfl at_169 rfl ?_
        refine s_if_eq_f (q := 174) C at_171 rfl (by decide) ?_
        refine s_iconst (q := 175) (v := (1 : Int32)) C (by rfl) at_174 rfl ?_
        exact s_retZ (z := (1 : Int32)) C G.el (t := .boolean) rfl (by simp) (by decide) at_175 (by decide) (by decide) rfl
      · rw [show (if own_isws c1 = true then (1 : Int32) else (0 : Int32)) = (0 : Int32) from if_neg q1]
        refine s_if_eq_t (q := 112) C at_105 (by decide) (by decide) (by decide) ?_
        refine s_iconst (q := 113) (v := (0 : Int32)) C (by rfl) at_112 rfl ?_
        refine s_istore (q := 115) (L' := #[.val (.int ls), .val (.int y0), .val (.int y1), .val (.int y2), .val (.int (2 : Int32)), .val (.int c0), .val (.int c1), .val (.int c2), .val (.ref o120), .val (.int (0 : Int32)), .unset, .unset, .unset, .unset]) C rfl at_113 rfl ?_
        refine s_goto (q := 169) C at_115 (by decide) (by decide) ?_
        exact J (by simp [*])
    · rw [show (if own_isws c0 = true then (1 : Int32) else (0 : Int32)) = (0 : Int32) from if_neg q0]
      refine s_if_eq_t (q := 112) C at_97 (by decide) (by decide) (by decide) ?_
      refine s_iconst (q := 113) (v := (0 : Int32)) C (by rfl) at_112 rfl ?_
      refine s_istore (q := 115) (L' := #[.val (.int ls), .val (.int y0), .val (.int y1), .val (.int y2), .val (.int (2 : Int32)), .val (.int c0), .val (.int c1), .val (.int c2), .val (.ref o120), .val (.int (0 : Int32)), .unset, .unset, .unset, .unset]) C rfl at_113 rfl ?_
      refine s_goto (q := 169) C at_115 (by decide) (by decide) ?_
      exact J (by simp [*])
  · rw [show (ls &&& (3 : Int32)) = (3 : Int32) from q]
    refine s_istore (q := 5) (L' := #[.val (.int ls), .val (.int y0), .val (.int y1), .val (.int y2), .val (.int (3 : Int32)), .unset, .unset, .unset, .unset, .unset, .unset, .unset, .unset, .unset]) C rfl at_3 rfl ?_
    refine s_iloadN (q := 6) C rfl at_5 rfl ?_
    refine s_sipush (q := 9) (v := (255 : Int32)) C (by rfl) at_6 rfl ?_
    refine s_iand (q := 10) C rfl at_9 rfl ?_
    refine s_i2c (q := 11) C rfl at_10 rfl ?_
    rw [show ((y0 &&& (255 : Int32)).toUInt32.toUInt16.toUInt32.toInt32) = (y0 &&& (255 : Int32)) from own_i2c (own_255 _)]
    generalize hc0 : (y0 &&& (255 : Int32)) = c0
    have r0 : ¬ c0 < 0 ∧ ¬ 255 < c0 := by rw [← hc0]; exact own_255 _
    refine s_istore (q := 13) (L' := #[.val (.int ls), .val (.int y0), .val (.int y1), .val (.int y2), .val (.int (3 : Int32)), .val (.int c0), .unset, .unset, .unset, .unset, .unset, .unset, .unset, .unset]) C rfl at_11 rfl ?_
    refine s_iloadN (q := 14) C rfl at_13 rfl ?_
    refine s_sipush (q := 17) (v := (255 : Int32)) C (by rfl) at_14 rfl ?_
    refine s_iand (q := 18) C rfl at_17 rfl ?_
    refine s_i2c (q := 19) C rfl at_18 rfl ?_
    rw [show ((y1 &&& (255 : Int32)).toUInt32.toUInt16.toUInt32.toInt32) = (y1 &&& (255 : Int32)) from own_i2c (own_255 _)]
    generalize hc1 : (y1 &&& (255 : Int32)) = c1
    have r1 : ¬ c1 < 0 ∧ ¬ 255 < c1 := by rw [← hc1]; exact own_255 _
    refine s_istore (q := 21) (L' := #[.val (.int ls), .val (.int y0), .val (.int y1), .val (.int y2), .val (.int (3 : Int32)), .val (.int c0), .val (.int c1), .unset, .unset, .unset, .unset, .unset, .unset, .unset]) C rfl at_19 rfl ?_
    refine s_iloadN (q := 22) C rfl at_21 rfl ?_
    refine s_sipush (q := 25) (v := (255 : Int32)) C (by rfl) at_22 rfl ?_
    refine s_iand (q := 26) C rfl at_25 rfl ?_
    refine s_i2c (q := 27) C rfl at_26 rfl ?_
    rw [show ((y2 &&& (255 : Int32)).toUInt32.toUInt16.toUInt32.toInt32) = (y2 &&& (255 : Int32)) from own_i2c (own_255 _)]
    generalize hc2 : (y2 &&& (255 : Int32)) = c2
    have r2 : ¬ c2 < 0 ∧ ¬ 255 < c2 := by rw [← hc2]; exact own_255 _
    refine s_istore (q := 29) (L' := #[.val (.int ls), .val (.int y0), .val (.int y1), .val (.int y2), .val (.int (3 : Int32)), .val (.int c0), .val (.int c1), .val (.int c2), .unset, .unset, .unset, .unset, .unset, .unset]) C rfl at_27 rfl ?_
    refine s_iload (q := 31) C rfl at_29 rfl ?_
    refine s_if_ne_t (q := 45) C at_31 (by decide) (by decide) (by decide) ?_
    refine s_iload (q := 47) C rfl at_45 rfl ?_
    refine s_iconst (q := 48) (v := (1 : Int32)) C (by rfl) at_47 rfl ?_
    refine s_icmp_ne_t (q := 71) C at_48 (by decide) (by decide) (by decide) ?_
    refine s_iload (q := 73) C rfl at_71 rfl ?_
    refine s_iconst (q := 74) (v := (2 : Int32)) C (by rfl) at_73 rfl ?_
    refine s_icmp_ne_t (q := 118) C at_74 (by decide) (by decide) (by decide) ?_
    refine s_iconst (q := 119) (v := (3 : Int32)) C (by rfl) at_118 rfl ?_
    refine s_newArr (q := 121) (cap := 3) (cells' := 1) (slots' := 3) C (G.1 _ (List.mem_of_getElem? (i := 0) rfl)) rfl (by decide) (by decide) (by decide) rfl rfl (by decide) (by decide) at_119 rfl ?_
    intro h157 o158 g_o158 Eh157 V_o158
    replace V_o158 : Ar Z h157 o158 .char [(.int (0 : Int32)), (.int (0 : Int32)), (.int (0 : Int32))] := V_o158
    have ge_o158 : n0 ≤ o158 := by rw [g_o158]; exact Old_le O
    have sz_o158 : h0.size ≤ o158 := Nat.le_of_eq g_o158.symm
    have K159 : Keep h0 h157 [] := Keep.of_ext Eh157
    refine s_dup (q := 122) C rfl at_121 rfl ?_
    refine s_iconst (q := 123) (v := (0 : Int32)) C (by rfl) at_122 rfl ?_
    refine s_iload (q := 125) C rfl at_123 rfl ?_
    refine s_castore (q := 126) (z := c0) (i := 0) C (own_nar r0.1 r0.2) V_o158 rfl (own_ltb rfl) ge_o158 at_125 rfl ?_
    intro h160 Wh160 Vh160
    have K161 := K159.wr Wh160 (Or.inr sz_o158)
    refine s_dup (q := 127) C rfl at_126 rfl ?_
    refine s_iconst (q := 128) (v := (1 : Int32)) C (by rfl) at_127 rfl ?_
    refine s_iload (q := 130) C rfl at_128 rfl ?_
    refine s_castore (q := 131) (z := c1) (i := 1) C (own_nar r1.1 r1.2) Vh160 rfl (own_ltb rfl) ge_o158 at_130 rfl ?_
    intro h162 Wh162 Vh162
    have K163 := K161.wr Wh162 (Or.inr sz_o158)
    refine s_dup (q := 132) C rfl at_131 rfl ?_
    refine s_iconst (q := 133) (v := (2 : Int32)) C (by rfl) at_132 rfl ?_
    refine s_iload (q := 135) C rfl at_133 rfl ?_
    refine s_castore (q := 136) (z := c2) (i := 2) C (own_nar r2.1 r2.2) Vh162 rfl (own_ltb rfl) ge_o158 at_135 rfl ?_
    intro h164 Wh164 Vh164
    have K165 := K163.wr Wh164 (Or.inr sz_o158)
    replace O := Old_k0 O K165
    have V1 : Ar Z h164 o158 .char (List.map Value.int [c0, c1, c2]) := Vh164
    refine s_astore (q := 138) (L' := #[.val (.int ls), .val (.int y0), .val (.int y1), .val (.int y2), .val (.int (3 : Int32)), .val (.int c0), .val (.int c1), .val (.int c2), .val (.ref o158), .unset, .unset, .unset, .unset, .unset]) C rfl rfl at_136 rfl ?_
    refine s_iload (q := 140) C rfl at_138 rfl ?_
    have J : ¬ [c0, c1, c2].all own_isws = true → AtS p l e room_1 s m #[(.int ls), (.int y0), (.int y1), (.int y2)] below meth c Z ([] : List (String × Nat)) "com/example/libhilo/libhilo/StoredSequenceUndefinedPinLaw" n0 (fun v h => v = some (.int 1)) h0.size [o158] h164 1 3 (mkF m 169 #[.val (.int ls), .val (.int y0), .val (.int y1), .val (.int y2), .val (.int (3 : Int32)), .val (.int c0), .val (.int c1), .val (.int c2), .val (.ref o158), .val (.int (0 : Int32)), .unset, .unset, .unset, .unset] []) := by
      intro hb
      refine s_iload (q := 171) C rfl at_169 rfl ?_
      refine s_if_eq_t (q := 176) C at_171 (by decide) (by decide) (by decide) ?_
      refine s_new (q := 179) (cells' := 2) (slots' := 7) C (G.1 _ (List.mem_of_getElem? (i := 5) rfl)) (G.1 _ (List.mem_of_getElem? (i := 6) rfl)) (G.1 _ (List.mem_of_getElem? (i := 7) rfl)) rfl rfl (by decide) (by decide) at_176 rfl ?_
      intro h166 o167 g_o167 Eh166 A_o167 D_o167
      have F_coder_o167 : Fld Z h166 o167 "java/lang/String" "coder" "B" (.int (0 : Int32)) := D_o167 (Or.inr (G.1 _ (List.mem_of_getElem? (i := 31) rfl))) (ty := .byte) (by decide)
      have F_value_o167 : Fld Z h166 o167 "java/lang/String" "value" "[B" .null := D_o167 (Or.inr (G.1 _ (List.mem_of_getElem? (i := 33) rfl))) (ty := (.array .byte)) (by decide)
      have ge_o167 : n0 ≤ o167 := by rw [g_o167]; exact Old_le O
      have K168 : Keep h164 h166 [] := Keep.of_ext Eh166
      have O169 := Old_k0 O K168
      refine s_dup (q := 180) C rfl at_179 rfl ?_
      refine s_aload (q := 182) C rfl rfl at_180 rfl ?_
      have hL_S1 : L1 [c0, c1, c2] := (own_L1c r0 (own_L1c r1 (own_L1c r2 (fun c hc => absurd hc List.not_mem_nil))))
      refine s_callI1 (q := 185) (argsL := [(.ref o158)]) (S := [(.ref o167)]) (W := 1) (cells' := 3) (slots' := 10) (a := o167) C rfl (G.1 _ (List.mem_of_getElem? (i := 8) rfl)) (G.1 _ (List.mem_of_getElem? (i := 9) rfl)) (G.1 _ (List.mem_of_getElem? (i := 7) rfl)) (G.1 _ (List.mem_of_getElem? (i := 10) rfl)) (by decide) (rm_strinit G O169 o167 o158 [c0, c1, c2] A_o167 F_value_o167 F_coder_o167 ge_o167 (Ar_k0 V1 K168) hL_S1 (own_leb rfl) (by simp)) rfl (lenOf pd_2 rfl) rfl (by decide) (own_leb rfl) (by decide) rfl rfl (by decide) (by decide) (wl := [o167]) (fun _ _ q => q.1) (allS (SfOk.mem (by simp)) (all0)) at_182 rfl ?_
      rintro _ h170 ⟨Kh170, rfl, S1⟩
      show AtS p l e _ s m _ below meth c Z _ _ n0 _ _ _ h170 3 10 (mkF m 185 #[.val (.int ls), .val (.int y0), .val (.int y1), .val (.int y2), .val (.int (3 : Int32)), .val (.int c0), .val (.int c1), .val (.int c2), .val (.ref o158), .val (.int (0 : Int32)), .unset, .unset, .unset, .unset] [(.ref o167)])
      have K171 : Keep h164 h170 [] := own_K1 K168 Kh170 (Nat.le_of_eq g_o167.symm)
      replace V1 := Ar_k0 V1 K171
      replace O := Old_k0 O K171
      refine s_astore (q := 187) (L' := #[.val (.int ls), .val (.int y0), .val (.int y1), .val (.int y2), .val (.int (3 : Int32)), .val (.int c0), .val (.int c1), .val (.int c2), .val (.ref o158), .val (.int (0 : Int32)), .val (.ref o167), .unset, .unset, .unset]) C rfl rfl at_185 rfl ?_
      refine s_aload (q := 189) C rfl rfl at_187 rfl ?_
      refine s_callS2 (q := 192) (argsL := [(.ref o167)]) (S := []) (W := 0) (cells' := 11) (slots' := 133) C G.el (G.1 _ (List.mem_of_getElem? (i := 34) rfl)) (G.1 _ (List.mem_of_getElem? (i := 35) rfl)) (G.1 _ (List.mem_of_getElem? (i := 36) rfl)) (G.1 _ (List.mem_of_getElem? (i := 37) rfl)) (by decide) (rm_undef G O o167 [c0, c1, c2] S1 hb) rfl (lenOf pd_8 rfl) rfl (by decide) (own_leb rfl) (by decide) rfl rfl (by decide) (by decide) at_189 rfl ?_
      rintro _ h172 ⟨Kh172, sq, sp, oe, rfl, s0, s1, s2, g0, g1, g2, g3, g4, g5, o0, o1⟩
      show AtS p l e _ s m _ below meth c Z _ _ n0 _ _ _ h172 11 133 (mkF m 192 #[.val (.int ls), .val (.int y0), .val (.int y1), .val (.int y2), .val (.int (3 : Int32)), .val (.int c0), .val (.int c1), .val (.int c2), .val (.ref o158), .val (.int (0 : Int32)), .val (.ref o167), .unset, .unset, .unset] [(.ref sq)])
      replace V1 := Ar_k0 V1 Kh172
      replace S1 := Str_k0 S1 Kh172
      replace O := Old_k0 O Kh172
      refine s_astore (q := 194) (L' := #[.val (.int ls), .val (.int y0), .val (.int y1), .val (.int y2), .val (.int (3 : Int32)), .val (.int c0), .val (.int c1), .val (.int c2), .val (.ref o158), .val (.int (0 : Int32)), .val (.ref o167), .val (.ref sq), .unset, .unset]) C rfl rfl at_192 rfl ?_
      refine s_aload (q := 196) C rfl rfl at_194 rfl ?_
      refine s_callV1 (q := 199) (argsL := []) (S := []) (W := 0) (cells' := 11) (slots' := 133) (a := sq) C s0 (G.1 _ (List.mem_of_getElem? (i := 135) rfl)) (G.1 _ (List.mem_of_getElem? (i := 136) rfl)) (s_nf (G.1 _ (List.mem_of_getElem? (i := 138) rfl))) (G.1 _ (List.mem_of_getElem? (i := 138) rfl)) (G.1 _ (List.mem_of_getElem? (i := 137) rfl)) (G.1 _ (List.mem_of_getElem? (i := 36) rfl)) (G.1 _ (List.mem_of_getElem? (i := 139) rfl)) (by decide) (rm_g_definition G O sq sp s1) rfl (lenOf pd_22 rfl) rfl (by decide) (own_leb rfl) (by decide) rfl rfl (by decide) (by decide) (wl := []) (fun _ _ q => by rw [q.1]; exact Keep.refl _ _) all0 at_196 rfl ?_
      rintro _ h173 ⟨eh174, rfl⟩
      rw [eh174]
      show AtS p l e _ s m _ below meth c Z _ _ n0 _ _ _ h172 11 133 (mkF m 199 #[.val (.int ls), .val (.int y0), .val (.int y1), .val (.int y2), .val (.int (3 : Int32)), .val (.int c0), .val (.int c1), .val (.int c2), .val (.ref o158), .val (.int (0 : Int32)), .val (.ref o167), .val (.ref sq), .unset, .unset] [(.ref sp)])
      refine s_astore (q := 201) (L' := #[.val (.int ls), .val (.int y0), .val (.int y1), .val (.int y2), .val (.int (3 : Int32)), .val (.int c0), .val (.int c1), .val (.int c2), .val (.ref o158), .val (.int (0 : Int32)), .val (.ref o167), .val (.ref sq), .val (.ref sp), .unset]) C rfl rfl at_199 rfl ?_
      refine s_aload (q := 203) C rfl rfl at_201 rfl ?_
      refine s_ifnonnull_t (q := 208) C at_203 (by decide) (by decide) ?_
      refine s_aload (q := 210) C rfl rfl at_208 rfl ?_
      refine s_callV1 (q := 213) (argsL := []) (S := []) (W := 0) (cells' := 11) (slots' := 133) (a := sp) C g0 (G.1 _ (List.mem_of_getElem? (i := 140) rfl)) (G.1 _ (List.mem_of_getElem? (i := 141) rfl)) (s_nf (G.1 _ (List.mem_of_getElem? (i := 143) rfl))) (G.1 _ (List.mem_of_getElem? (i := 143) rfl)) (G.1 _ (List.mem_of_getElem? (i := 142) rfl)) (G.1 _ (List.mem_of_getElem? (i := 42) rfl)) (G.1 _ (List.mem_of_getElem? (i := 144) rfl)) (by decide) (rm_g_name G O sp o167 g1) rfl (lenOf pd_23 rfl) rfl (by decide) (own_leb rfl) (by decide) rfl rfl (by decide) (by decide) (wl := []) (fun _ _ q => by rw [q.1]; exact Keep.refl _ _) all0 at_210 rfl ?_
      rintro _ h175 ⟨eh176, rfl⟩
      rw [eh176]
      show AtS p l e _ s m _ below meth c Z _ _ n0 _ _ _ h172 11 133 (mkF m 213 #[.val (.int ls), .val (.int y0), .val (.int y1), .val (.int y2), .val (.int (3 : Int32)), .val (.int c0), .val (.int c1), .val (.int c2), .val (.ref o158), .val (.int (0 : Int32)), .val (.ref o167), .val (.ref sq), .val (.ref sp), .unset] [(.ref o167)])
      refine s_aload (q := 215) C rfl rfl at_213 rfl ?_
      refine s_callV1 (q := 218) (argsL := [(.ref o167)]) (S := []) (W := 0) (cells' := 11) (slots' := 133) (a := o167) C S1.1 (G.1 _ (List.mem_of_getElem? (i := 145) rfl)) (G.1 _ (List.mem_of_getElem? (i := 146) rfl)) (s_nf (G.1 _ (List.mem_of_getElem? (i := 148) rfl))) (G.1 _ (List.mem_of_getElem? (i := 148) rfl)) (G.1 _ (List.mem_of_getElem? (i := 147) rfl)) (G.1 _ (List.mem_of_getElem? (i := 7) rfl)) (G.1 _ (List.mem_of_getElem? (i := 149) rfl)) (by decide) (rm_eqSame G O o167) rfl (lenOf pd_24 rfl) rfl (by decide) (own_leb rfl) (by decide) rfl rfl (by decide) (by decide) (wl := []) (fun _ _ q => by rw [q.1]; exact Keep.refl _ _) all0 at_215 rfl ?_
      rintro _ h177 ⟨eh178, rfl⟩
      rw [eh178]
      show AtS p l e _ s m _ below meth c Z _ _ n0 _ _ _ h172 11 133 (mkF m 218 #[.val (.int ls), .val (.int y0), .val (.int y1), .val (.int y2), .val (.int (3 : Int32)), .val (.int c0), .val (.int c1), .val (.int c2), .val (.ref o158), .val (.int (0 : Int32)), .val (.ref o167), .val (.ref sq), .val (.ref sp), .unset] [(.int (1 : Int32))])
      refine s_istore (q := 220) (L' := #[.val (.int ls), .val (.int y0), .val (.int y1), .val (.int y2), .val (.int (3 : Int32)), .val (.int c0), .val (.int c1), .val (.int c2), .val (.ref o158), .val (.int (0 : Int32)), .val (.ref o167), .val (.ref sq), .val (.ref sp), .val (.int (1 : Int32))]) C rfl at_218 rfl ?_
      refine s_iload (q := 222) C rfl at_220 rfl ?_
      refine s_if_eq_f (q := 225) C at_222 rfl (by decide) ?_
      refine s_aload (q := 227) C rfl rfl at_225 rfl ?_
      refine s_callV1 (q := 230) (argsL := []) (S := []) (W := 0) (cells' := 11) (slots' := 133) (a := sp) C g0 (G.1 _ (List.mem_of_getElem? (i := 150) rfl)) (G.1 _ (List.mem_of_getElem? (i := 151) rfl)) (s_nf (G.1 _ (List.mem_of_getElem? (i := 153) rfl))) (G.1 _ (List.mem_of_getElem? (i := 153) rfl)) (G.1 _ (List.mem_of_getElem? (i := 152) rfl)) (G.1 _ (List.mem_of_getElem? (i := 42) rfl)) (G.1 _ (List.mem_of_getElem? (i := 154) rfl)) (by decide) (rm_g_increment G O sp 1 g2) rfl (lenOf pd_25 rfl) rfl (by decide) (own_leb rfl) (by decide) rfl rfl (by decide) (by decide) (wl := []) (fun _ _ q => by rw [q.1]; exact Keep.refl _ _) all0 at_227 rfl ?_
      rintro _ h179 ⟨eh180, rfl⟩
      rw [eh180]
      show AtS p l e _ s m _ below meth c Z _ _ n0 _ _ _ h172 11 133 (mkF m 230 #[.val (.int ls), .val (.int y0), .val (.int y1), .val (.int y2), .val (.int (3 : Int32)), .val (.int c0), .val (.int c1), .val (.int c2), .val (.ref o158), .val (.int (0 : Int32)), .val (.ref o167), .val (.ref sq), .val (.ref sp), .val (.int (1 : Int32))] [(.long (1 : Int64))])
      refine s_lconst (q := 231) (v := (1 : Int64)) C (by rfl) at_230 rfl ?_
      refine s_lcmp (q := 232) (z := (0 : Int32)) C (by decide) at_231 rfl ?_
      refine s_if_ne_f (q := 235) C at_232 rfl (by decide) ?_
      refine s_iconst (q := 236) (v := (1 : Int32)) C (by rfl) at_235 rfl ?_
      refine s_goto (q := 240) C at_236 (by decide) (by decide) ?_
      refine s_istore (q := 242) (L' := #[.val (.int ls), .val (.int y0), .val (.int y1), .val (.int y2), .val (.int (3 : Int32)), .val (.int c0), .val (.int c1), .val (.int c2), .val (.ref o158), .val (.int (0 : Int32)), .val (.ref o167), .val (.ref sq), .val (.ref sp), .val (.int (1 : Int32))]) C rfl at_240 rfl ?_
      refine s_iload (q := 244) C rfl at_242 rfl ?_
      refine s_if_eq_f (q := 247) C at_244 rfl (by decide) ?_
      refine s_aload (q := 249) C rfl rfl at_247 rfl ?_
      refine s_callV1 (q := 252) (argsL := []) (S := []) (W := 0) (cells' := 11) (slots' := 133) (a := sp) C g0 (G.1 _ (List.mem_of_getElem? (i := 155) rfl)) (G.1 _ (List.mem_of_getElem? (i := 156) rfl)) (s_nf (G.1 _ (List.mem_of_getElem? (i := 158) rfl))) (G.1 _ (List.mem_of_getElem? (i := 158) rfl)) (G.1 _ (List.mem_of_getElem? (i := 157) rfl)) (G.1 _ (List.mem_of_getElem? (i := 42) rfl)) (G.1 _ (List.mem_of_getElem? (i := 159) rfl)) (by decide) (rm_start G O sp 1 g0 g2 g3 g4 g5) rfl (lenOf pd_25 rfl) rfl (by decide) (own_leb rfl) (by decide) rfl rfl (by decide) (by decide) (wl := []) (fun _ _ q => by rw [q.1]; exact Keep.refl _ _) all0 at_249 rfl ?_
      rintro _ h181 ⟨eh182, rfl⟩
      rw [eh182]
      show AtS p l e _ s m _ below meth c Z _ _ n0 _ _ _ h172 11 133 (mkF m 252 #[.val (.int ls), .val (.int y0), .val (.int y1), .val (.int y2), .val (.int (3 : Int32)), .val (.int c0), .val (.int c1), .val (.int c2), .val (.ref o158), .val (.int (0 : Int32)), .val (.ref o167), .val (.ref sq), .val (.ref sp), .val (.int (1 : Int32))] [(.long (if (0 : Int64) < (1 : Int64) then (if (0 : Int64) < (1 : Int64) then (1 : Int64) else (-9223372036854775808 : Int64)) else (if (0 : Int64) < (1 : Int64) then (9223372036854775807 : Int64) else (-1 : Int64))))])
      rw [show (if (0 : Int64) < (1 : Int64) then (if (0 : Int64) < (1 : Int64) then (1 : Int64) else (-9223372036854775808 : Int64)) else (if (0 : Int64) < (1 : Int64) then (9223372036854775807 : Int64) else (-1 : Int64))) = (1 : Int64) from by decide]
      refine s_lconst (q := 253) (v := (1 : Int64)) C (by rfl) at_252 rfl ?_
      refine s_lcmp (q := 254) (z := (0 : Int32)) C (by decide) at_253 rfl ?_
      refine s_if_ne_f (q := 257) C at_254 rfl (by decide) ?_
      refine s_iconst (q := 258) (v := (1 : Int32)) C (by rfl) at_257 rfl ?_
      refine s_goto (q := 262) C at_258 (by decide) (by decide) ?_
      refine s_istore (q := 264) (L' := #[.val (.int ls), .val (.int y0), .val (.int y1), .val (.int y2), .val (.int (3 : Int32)), .val (.int c0), .val (.int c1), .val (.int c2), .val (.ref o158), .val (.int (0 : Int32)), .val (.ref o167), .val (.ref sq), .val (.ref sp), .val (.int (1 : Int32))]) C rfl at_262 rfl ?_
      refine s_iload (q := 266) C rfl at_264 rfl ?_
      refine s_if_eq_f (q := 269) C at_266 rfl (by decide) ?_
      refine s_aload (q := 271) C rfl rfl at_269 rfl ?_
      refine s_callV1 (q := 274) (argsL := []) (S := []) (W := 0) (cells' := 11) (slots' := 133) (a := sp) C g0 (G.1 _ (List.mem_of_getElem? (i := 177) rfl)) (G.1 _ (List.mem_of_getElem? (i := 161) rfl)) (s_nf (G.1 _ (List.mem_of_getElem? (i := 163) rfl))) (G.1 _ (List.mem_of_getElem? (i := 163) rfl)) (G.1 _ (List.mem_of_getElem? (i := 162) rfl)) (G.1 _ (List.mem_of_getElem? (i := 42) rfl)) (G.1 _ (List.mem_of_getElem? (i := 164) rfl)) (by decide) (rm_minimum G O sp 1 g0 g2 g4) rfl (lenOf pd_25 rfl) rfl (by decide) (own_leb rfl) (by decide) rfl rfl (by decide) (by decide) (wl := []) (fun _ _ q => by rw [q.1]; exact Keep.refl _ _) all0 at_271 rfl ?_
      rintro _ h183 ⟨eh184, rfl⟩
      rw [eh184]
      show AtS p l e _ s m _ below meth c Z _ _ n0 _ _ _ h172 11 133 (mkF m 274 #[.val (.int ls), .val (.int y0), .val (.int y1), .val (.int y2), .val (.int (3 : Int32)), .val (.int c0), .val (.int c1), .val (.int c2), .val (.ref o158), .val (.int (0 : Int32)), .val (.ref o167), .val (.ref sq), .val (.ref sp), .val (.int (1 : Int32))] [(.long (if (0 : Int64) < (1 : Int64) then (1 : Int64) else (-9223372036854775808 : Int64)))])
      rw [show (if (0 : Int64) < (1 : Int64) then (1 : Int64) else (-9223372036854775808 : Int64)) = (1 : Int64) from by decide]
      refine s_lconst (q := 275) (v := (1 : Int64)) C (by rfl) at_274 rfl ?_
      refine s_lcmp (q := 276) (z := (0 : Int32)) C (by decide) at_275 rfl ?_
      refine s_if_ne_f (q := 279) C at_276 rfl (by decide) ?_
      refine s_iconst (q := 280) (v := (1 : Int32)) C (by rfl) at_279 rfl ?_
      refine s_goto (q := 284) C at_280 (by decide) (by decide) ?_
      refine s_istore (q := 286) (L' := #[.val (.int ls), .val (.int y0), .val (.int y1), .val (.int y2), .val (.int (3 : Int32)), .val (.int c0), .val (.int c1), .val (.int c2), .val (.ref o158), .val (.int (0 : Int32)), .val (.ref o167), .val (.ref sq), .val (.ref sp), .val (.int (1 : Int32))]) C rfl at_284 rfl ?_
      refine s_iload (q := 288) C rfl at_286 rfl ?_
      refine s_if_eq_f (q := 291) C at_288 rfl (by decide) ?_
      refine s_aload (q := 293) C rfl rfl at_291 rfl ?_
      refine s_callV1 (q := 296) (argsL := []) (S := []) (W := 0) (cells' := 11) (slots' := 133) (a := sp) C g0 (G.1 _ (List.mem_of_getElem? (i := 178) rfl)) (G.1 _ (List.mem_of_getElem? (i := 171) rfl)) (s_nf (G.1 _ (List.mem_of_getElem? (i := 173) rfl))) (G.1 _ (List.mem_of_getElem? (i := 173) rfl)) (G.1 _ (List.mem_of_getElem? (i := 172) rfl)) (G.1 _ (List.mem_of_getElem? (i := 42) rfl)) (G.1 _ (List.mem_of_getElem? (i := 174) rfl)) (by decide) (rm_maximum G O sp 1 g0 g2 g5) rfl (lenOf pd_25 rfl) rfl (by decide) (own_leb rfl) (by decide) rfl rfl (by decide) (by decide) (wl := []) (fun _ _ q => by rw [q.1]; exact Keep.refl _ _) all0 at_293 rfl ?_
      rintro _ h185 ⟨eh186, rfl⟩
      rw [eh186]
      show AtS p l e _ s m _ below meth c Z _ _ n0 _ _ _ h172 11 133 (mkF m 296 #[.val (.int ls), .val (.int y0), .val (.int y1), .val (.int y2), .val (.int (3 : Int32)), .val (.int c0), .val (.int c1), .val (.int c2), .val (.ref o158), .val (.int (0 : Int32)), .val (.ref o167), .val (.ref sq), .val (.ref sp), .val (.int (1 : Int32))] [(.long (if (0 : Int64) < (1 : Int64) then (9223372036854775807 : Int64) else (-1 : Int64)))])
      rw [show (if (0 : Int64) < (1 : Int64) then (9223372036854775807 : Int64) else (-1 : Int64)) = (9223372036854775807 : Int64) from by decide]
      refine s_ldc2J (q := 299) C (G.1 _ (List.mem_of_getElem? (i := 179) rfl)) at_296 rfl ?_
      refine s_lcmp (q := 300) (z := (0 : Int32)) C (by decide) at_299 rfl ?_
      refine s_if_ne_f (q := 303) C at_300 rfl (by decide) ?_
      refine s_iconst (q := 304) (v := (1 : Int32)) C (by rfl) at_303 rfl ?_
      refine s_goto (q := 308) C at_304 (by decide) (by decide) ?_
      refine s_istore (q := 310) (L' := #[.val (.int ls), .val (.int y0), .val (.int y1), .val (.int y2), .val (.int (3 : Int32)), .val (.int c0), .val (.int c1), .val (.int c2), .val (.ref o158), .val (.int (0 : Int32)), .val (.ref o167), .val (.ref sq), .val (.ref sp), .val (.int (1 : Int32))]) C rfl at_308 rfl ?_
      refine s_iload (q := 312) C rfl at_310 rfl ?_
      refine s_if_eq_f (q := 315) C at_312 rfl (by decide) ?_
      refine s_aload (q := 317) C rfl rfl at_315 rfl ?_
      refine s_callV1 (q := 320) (argsL := []) (S := []) (W := 0) (cells' := 11) (slots' := 133) (a := sp) C g0 (G.1 _ (List.mem_of_getElem? (i := 180) rfl)) (G.1 _ (List.mem_of_getElem? (i := 181) rfl)) (s_nf (G.1 _ (List.mem_of_getElem? (i := 183) rfl))) (G.1 _ (List.mem_of_getElem? (i := 183) rfl)) (G.1 _ (List.mem_of_getElem? (i := 182) rfl)) (G.1 _ (List.mem_of_getElem? (i := 42) rfl)) (G.1 _ (List.mem_of_getElem? (i := 184) rfl)) (by decide) (rm_limit G O sp 1 g0 g2 g5 (by decide)) rfl (lenOf pd_25 rfl) rfl (by decide) (own_leb rfl) (by decide) rfl rfl (by decide) (by decide) (wl := []) (fun _ _ q => by rw [q.1]; exact Keep.refl _ _) all0 at_317 rfl ?_
      rintro _ h187 ⟨eh188, rfl⟩
      rw [eh188]
      show AtS p l e _ s m _ below meth c Z _ _ n0 _ _ _ h172 11 133 (mkF m 320 #[.val (.int ls), .val (.int y0), .val (.int y1), .val (.int y2), .val (.int (3 : Int32)), .val (.int c0), .val (.int c1), .val (.int c2), .val (.ref o158), .val (.int (0 : Int32)), .val (.ref o167), .val (.ref sq), .val (.ref sp), .val (.int (1 : Int32))] [(.long (if (0 : Int64) < (1 : Int64) then (9223372036854775807 : Int64) else (-9223372036854775808 : Int64)))])
      rw [show (if (0 : Int64) < (1 : Int64) then (9223372036854775807 : Int64) else (-9223372036854775808 : Int64)) = (9223372036854775807 : Int64) from by decide]
      refine s_ldc2J (q := 323) C (G.1 _ (List.mem_of_getElem? (i := 179) rfl)) at_320 rfl ?_
      refine s_lcmp (q := 324) (z := (0 : Int32)) C (by decide) at_323 rfl ?_
      refine s_if_ne_f (q := 327) C at_324 rfl (by decide) ?_
      refine s_iconst (q := 328) (v := (1 : Int32)) C (by rfl) at_327 rfl ?_
      refine s_goto (q := 332) C at_328 (by decide) (by decide) ?_
      refine s_istore (q := 334) (L' := #[.val (.int ls), .val (.int y0), .val (.int y1), .val (.int y2), .val (.int (3 : Int32)), .val (.int c0), .val (.int c1), .val (.int c2), .val (.ref o158), .val (.int (0 : Int32)), .val (.ref o167), .val (.ref sq), .val (.ref sp), .val (.int (1 : Int32))]) C rfl at_332 rfl ?_
      refine s_iload (q := 336) C rfl at_334 rfl ?_
      refine s_if_eq_f (q := 339) C at_336 rfl (by decide) ?_
      refine s_aload (q := 341) C rfl rfl at_339 rfl ?_
      refine s_callV1 (q := 344) (argsL := []) (S := []) (W := 0) (cells' := 11) (slots' := 133) (a := sq) C s0 (G.1 _ (List.mem_of_getElem? (i := 185) rfl)) (G.1 _ (List.mem_of_getElem? (i := 186) rfl)) (s_nf (G.1 _ (List.mem_of_getElem? (i := 188) rfl))) (G.1 _ (List.mem_of_getElem? (i := 188) rfl)) (G.1 _ (List.mem_of_getElem? (i := 187) rfl)) (G.1 _ (List.mem_of_getElem? (i := 36) rfl)) (G.1 _ (List.mem_of_getElem? (i := 189) rfl)) (by decide) (rm_g_lastReserved G O sq oe s2) rfl (lenOf pd_20 rfl) rfl (by decide) (own_leb rfl) (by decide) rfl rfl (by decide) (by decide) (wl := []) (fun _ _ q => by rw [q.1]; exact Keep.refl _ _) all0 at_341 rfl ?_
      rintro _ h189 ⟨eh190, rfl⟩
      rw [eh190]
      show AtS p l e _ s m _ below meth c Z _ _ n0 _ _ _ h172 11 133 (mkF m 344 #[.val (.int ls), .val (.int y0), .val (.int y1), .val (.int y2), .val (.int (3 : Int32)), .val (.int c0), .val (.int c1), .val (.int c2), .val (.ref o158), .val (.int (0 : Int32)), .val (.ref o167), .val (.ref sq), .val (.ref sp), .val (.int (1 : Int32))] [(.ref oe)])
      refine s_callV1 (q := 347) (argsL := []) (S := []) (W := 0) (cells' := 11) (slots' := 133) (a := oe) C o0 (G.1 _ (List.mem_of_getElem? (i := 190) rfl)) (G.1 _ (List.mem_of_getElem? (i := 191) rfl)) (s_nf (G.1 _ (List.mem_of_getElem? (i := 193) rfl))) (G.1 _ (List.mem_of_getElem? (i := 193) rfl)) (G.1 _ (List.mem_of_getElem? (i := 192) rfl)) (G.1 _ (List.mem_of_getElem? (i := 117) rfl)) (G.1 _ (List.mem_of_getElem? (i := 194) rfl)) (by decide) (rm_isPresent G O oe o1) rfl (lenOf pd_12 rfl) rfl (by decide) (own_leb rfl) (by decide) rfl rfl (by decide) (by decide) (wl := []) (fun _ _ q => by rw [q.1]; exact Keep.refl _ _) all0 at_344 rfl ?_
      rintro _ h191 ⟨eh192, rfl⟩
      rw [eh192]
      show AtS p l e _ s m _ below meth c Z _ _ n0 _ _ _ h172 11 133 (mkF m 347 #[.val (.int ls), .val (.int y0), .val (.int y1), .val (.int y2), .val (.int (3 : Int32)), .val (.int c0), .val (.int c1), .val (.int c2), .val (.ref o158), .val (.int (0 : Int32)), .val (.ref o167), .val (.ref sq), .val (.ref sp), .val (.int (1 : Int32))] [(.int (0 : Int32))])
      refine s_if_ne_f (q := 350) C at_347 rfl (by decide) ?_
      refine s_iconst (q := 351) (v := (1 : Int32)) C (by rfl) at_350 rfl ?_
      refine s_goto (q := 355) C at_351 (by decide) (by decide) ?_
      refine s_istore (q := 357) (L' := #[.val (.int ls), .val (.int y0), .val (.int y1), .val (.int y2), .val (.int (3 : Int32)), .val (.int c0), .val (.int c1), .val (.int c2), .val (.ref o158), .val (.int (0 : Int32)), .val (.ref o167), .val (.ref sq), .val (.ref sp), .val (.int (1 : Int32))]) C rfl at_355 rfl ?_
      refine s_iload (q := 359) C rfl at_357 rfl ?_
      exact s_retZ (z := (1 : Int32)) C G.el (t := .boolean) rfl (by simp) (by decide) at_359 (by decide) (by decide) rfl
    refine s_callS1 (q := 143) (argsL := [(.int c0)]) (S := []) (W := 0) (cells' := 1) (slots' := 3) C (G.1 _ (List.mem_of_getElem? (i := 1) rfl)) (G.1 _ (List.mem_of_getElem? (i := 2) rfl)) (G.1 _ (List.mem_of_getElem? (i := 3) rfl)) (G.1 _ (List.mem_of_getElem? (i := 4) rfl)) (by decide) (rm_ws G O c0) rfl (lenOf pd_1 rfl) rfl (by decide) (own_leb rfl) (by decide) rfl rfl (by decide) (by decide) (wl := []) (fun _ _ q => by rw [q.1]; exact Keep.refl _ _) all0 at_140 rfl ?_
    rintro _ h193 ⟨eh194, rfl⟩
    rw [eh194]
    show AtS p l e _ s m _ below meth c Z _ _ n0 _ _ _ h164 1 3 (mkF m 143 #[.val (.int ls), .val (.int y0), .val (.int y1), .val (.int y2), .val (.int (3 : Int32)), .val (.int c0), .val (.int c1), .val (.int c2), .val (.ref o158), .unset, .unset, .unset, .unset, .unset] [(.int (if own_isws c0 = true then (1 : Int32) else (0 : Int32)))])
    by_cases q0 : own_isws c0 = true
    · rw [show (if own_isws c0 = true then (1 : Int32) else (0 : Int32)) = (1 : Int32) from if_pos q0]
      refine s_if_eq_f (q := 146) C at_143 rfl (by decide) ?_
      refine s_iload (q := 148) C rfl at_146 rfl ?_
      refine s_callS1 (q := 151) (argsL := [(.int c1)]) (S := []) (W := 0) (cells' := 1) (slots' := 3) C (G.1 _ (List.mem_of_getElem? (i := 1) rfl)) (G.1 _ (List.mem_of_getElem? (i := 2) rfl)) (G.1 _ (List.mem_of_getElem? (i := 3) rfl)) (G.1 _ (List.mem_of_getElem? (i := 4) rfl)) (by decide) (rm_ws G O c1) rfl (lenOf pd_1 rfl) rfl (by decide) (own_leb rfl) (by decide) rfl rfl (by decide) (by decide) (wl := []) (fun _ _ q => by rw [q.1]; exact Keep.refl _ _) all0 at_148 rfl ?_
      rintro _ h195 ⟨eh196, rfl⟩
      rw [eh196]
      show AtS p l e _ s m _ below meth c Z _ _ n0 _ _ _ h164 1 3 (mkF m 151 #[.val (.int ls), .val (.int y0), .val (.int y1), .val (.int y2), .val (.int (3 : Int32)), .val (.int c0), .val (.int c1), .val (.int c2), .val (.ref o158), .unset, .unset, .unset, .unset, .unset] [(.int (if own_isws c1 = true then (1 : Int32) else (0 : Int32)))])
      by_cases q1 : own_isws c1 = true
      · rw [show (if own_isws c1 = true then (1 : Int32) else (0 : Int32)) = (1 : Int32) from if_pos q1]
        refine s_if_eq_f (q := 154) C at_151 rfl (by decide) ?_
        refine s_iload (q := 156) C rfl at_154 rfl ?_
        refine s_callS1 (q := 159) (argsL := [(.int c2)]) (S := []) (W := 0) (cells' := 1) (slots' := 3) C (G.1 _ (List.mem_of_getElem? (i := 1) rfl)) (G.1 _ (List.mem_of_getElem? (i := 2) rfl)) (G.1 _ (List.mem_of_getElem? (i := 3) rfl)) (G.1 _ (List.mem_of_getElem? (i := 4) rfl)) (by decide) (rm_ws G O c2) rfl (lenOf pd_1 rfl) rfl (by decide) (own_leb rfl) (by decide) rfl rfl (by decide) (by decide) (wl := []) (fun _ _ q => by rw [q.1]; exact Keep.refl _ _) all0 at_156 rfl ?_
        rintro _ h197 ⟨eh198, rfl⟩
        rw [eh198]
        show AtS p l e _ s m _ below meth c Z _ _ n0 _ _ _ h164 1 3 (mkF m 159 #[.val (.int ls), .val (.int y0), .val (.int y1), .val (.int y2), .val (.int (3 : Int32)), .val (.int c0), .val (.int c1), .val (.int c2), .val (.ref o158), .unset, .unset, .unset, .unset, .unset] [(.int (if own_isws c2 = true then (1 : Int32) else (0 : Int32)))])
        by_cases q2 : own_isws c2 = true
        · rw [show (if own_isws c2 = true then (1 : Int32) else (0 : Int32)) = (1 : Int32) from if_pos q2]
          refine s_if_eq_f (q := 162) C at_159 rfl (by decide) ?_
          refine s_iconst (q := 163) (v := (1 : Int32)) C (by rfl) at_162 rfl ?_
          refine s_goto (q := 167) C at_163 (by decide) (by decide) ?_
          refine s_istore (q := 169) (L' := #[.val (.int ls), .val (.int y0), .val (.int y1), .val (.int y2), .val (.int (3 : Int32)), .val (.int c0), .val (.int c1), .val (.int c2), .val (.ref o158), .val (.int (1 : Int32)), .unset, .unset, .unset, .unset]) C rfl at_167 rfl ?_
          refine s_iload (q := 171) C rfl at_169 rfl ?_
          refine s_if_eq_f (q := 174) C at_171 rfl (by decide) ?_
          refine s_iconst (q := 175) (v := (1 : Int32)) C (by rfl) at_174 rfl ?_
          exact s_retZ (z := (1 : Int32)) C G.el (t := .boolean) rfl (by simp) (by decide) at_175 (by decide) (by decide) rfl
        · rw [show (if own_isws c2 = true then (1 : Int32) else (0 : Int32)) = (0 : Int32) from if_neg q2]
          refine s_if_eq_t (q := 166) C at_159 (by decide) (by decide) (by decide) ?_
          refine s_iconst (q := 167) (v := (0 : Int32)) C (by rfl) at_166 rfl ?_
          refine s_istore (q := 169) (L' := #[.val (.int ls), .val (.int y0), .val (.int y1), .val (.int y2), .val (.int (3 : Int32)), .val (.int c0), .val (.int c1), .val (.int c2), .val (.ref o158), .val (.int (0 : Int32)), .unset, .unset, .unset, .unset]) C rfl at_167 rfl ?_
          exact J (by simp [*])
      · rw [show (if own_isws c1 = true then (1 : Int32) else (0 : Int32)) = (0 : Int32) from if_neg q1]
        refine s_if_eq_t (q := 166) C at_151 (by decide) (by decide) (by decide) ?_
        refine s_iconst (q := 167) (v := (0 : Int32)) C (by rfl) at_166 rfl ?_
        refine s_istore (q := 169) (L' := #[.val (.int ls), .val (.int y0), .val (.int y1), .val (.int y2), .val (.int (3 : Int32)), .val (.int c0), .val (.int c1), .val (.int c2), .val (.ref o158), .val (.int (0 : Int32)), .unset, .unset, .unset, .unset]) C rfl at_167 rfl ?_
        exact J (by simp [*])
    · rw [show (if own_isws c0 = true then (1 : Int32) else (0 : Int32)) = (0 : Int32) from if_neg q0]
      refine s_if_eq_t (q := 166) C at_143 (by decide) (by decide) (by decide) ?_
      refine s_iconst (q := 167) (v := (0 : Int32)) C (by rfl) at_166 rfl ?_
      refine s_istore (q := 169) (L' := #[.val (.int ls), .val (.int y0), .val (.int y1), .val (.int y2), .val (.int (3 : Int32)), .val (.int c0), .val (.int c1), .val (.int c2), .val (.ref o158), .val (.int (0 : Int32)), .unset, .unset, .unset, .unset]) C rfl at_167 rfl ?_
      exact J (by simp [*])
set_option maxRecDepth 65536 in
set_option maxHeartbeats 40000000 in
theorem comes_1 {Post : Tables → Env → Array Value → State → Outcome → State → Prop} (hpost : ∀ tb e args s v u, (limb_1_1.after args s (.returned v) u = true ∧ limb_1_2.after args s (.returned v) u = true ∧ True) → ReturnedEndW s (.returned v) u (Jvm.fieldLocs frame_1_writes args s ++ Jvm.arrayLocs frame_1_arrays args s ++ Jvm.staticLocs frame_1_statics s) 24 3200 → Post tb e args s (.returned v) u) :
    ArmFor flags0 classFile x code maxLocals ret World_1 tables_1 room_1 Calls_1 rest_1 Pre_1 Post := by
  intro l hfl _ _ p e ha hc hk s m args below hf hA hF happ hP
  obtain ⟨hcalls, hrest, hpre⟩ := hP
  obtain ⟨-, -, -, hnamed, -, -, -, hat⟩ := (Spec.applies_iff hf).mp happ
  obtain ⟨hg, hn⟩ := and_e (Cond.before_iff.mp (show (Jvm.Cond.and given_1 narrow_1).before args s = true from hpre))
  obtain ⟨hcount, hg0⟩ := and_e hg
  obtain ⟨ha0, hg1⟩ := and_e hg0
  obtain ⟨ha1, hg2⟩ := and_e hg1
  obtain ⟨ha2, hg3⟩ := and_e hg2
  have ha3 := hg3
  obtain ⟨w0, w1, w2, w3, rfl⟩ : ∃ w0 w1 w2 w3 : Value, args = #[w0, w1, w2, w3] := by
    have hs : args.size = 4 := by simpa [Cond.value, given_1] using hcount
    obtain ⟨L⟩ := args
    match L, hs with
    | [w0, w1, w2, w3], _ => exact ⟨w0, w1, w2, w3, rfl⟩
  have hw := fun d (hd : d ∈ tables_1) => atoms_spec (ws := Jvm.Cond.code x code maxLocals ret :: tables_1) hat d (List.mem_cons_of_mem _ hd)
  have hfit : Fit s := fun {y c} hc i hi => by
    obtain ⟨ha, rfl⟩ := Array.getElem?_eq_some_iff.mp hc
    have q := List.all_eq_true.mp ((Array.all_eq_true_iff_forall_mem.mp hF) _ (Array.getElem_mem ha)) i (List.mem_range.mpr hi)
    simpa [Array.getElem?_eq_getElem hi] using q
  obtain ⟨i0, e0⟩ := is_v ha0
  obtain rfl : w0 = (.int i0) := Option.some.inj e0
  obtain ⟨i1, e1⟩ := is_v ha1
  obtain rfl : w1 = (.int i1) := Option.some.inj e1
  obtain ⟨i2, e2⟩ := is_v ha2
  obtain rfl : w2 = (.int i2) := Option.some.inj e2
  obtain ⟨i3, e3⟩ := is_v ha3
  obtain rfl : w3 = (.int i3) := Option.some.inj e3
  obtain ⟨hsets, hown0⟩ := atoms_of _ (rest_1_c_eq ▸ (show rest_1_c.before _ s = true from hrest))
  have hcs1 := not_v (Cond.before_iff.mp (hsets _ (List.mem_of_getElem? (i := 2) rfl)))
  obtain ⟨zc, ezc⟩ := is_v (Cond.before_iff.mp (hsets _ (List.mem_of_getElem? (i := 1) rfl)))
  have Scs : Sta s s.heap "java/lang/String" "COMPACT_STRINGS" "Z" (.int zc) := Sta.start ezc (Or.inl (hsets _ (List.mem_of_getElem? (i := 0) rfl)))
  have hzc : ¬ (zc = (0 : Int32)) := gotF (Cond.eq_ints ezc (Term.int_eval (0))) hcs1
  have hEL : EW s #[(.int i0), (.int i1), (.int i2), (.int i3)] ([] : List (String × Nat)) := EW.nil
  obtain ⟨xi, exi⟩ := exa_v (Cond.before_iff.mp (hsets _ (List.mem_of_getElem? (i := 11) rfl)))
  have Sci : Sta s s.heap "java/lang/CharacterDataLatin1" "instance" "Ljava/lang/CharacterDataLatin1;" (.ref xi) := Sta.start exi (Or.inl (hsets _ (List.mem_of_getElem? (i := 10) rfl)))
  have Eci : Exa s s.heap xi "java/lang/CharacterDataLatin1" := Exa.start exi (Cond.before_iff.mp (hsets _ (List.mem_of_getElem? (i := 11) rfl)))
  obtain ⟨xa, exa⟩ := exa_v (Cond.before_iff.mp (hsets _ (List.mem_of_getElem? (i := 15) rfl)))
  have Sca : Sta s s.heap "java/lang/CharacterDataLatin1" "A" "[I" (.ref xa) := Sta.start exa (Or.inl (hsets _ (List.mem_of_getElem? (i := 13) rfl)))
  obtain ⟨cla, Aca⟩ := Arr.start exa (Cond.before_iff.mp (hsets _ (List.mem_of_getElem? (i := 14) rfl)))
  have VA := own_tabA hfit exa Aca (Cond.before_iff.mp (hsets _ (List.mem_of_getElem? (i := 16) rfl))) hsets
  obtain ⟨xe, exe⟩ := exa_v (Cond.before_iff.mp (hsets _ (List.mem_of_getElem? (i := 275) rfl)))
  have Soe : Sta s s.heap "java/util/OptionalLong" "EMPTY" "Ljava/util/OptionalLong;" (.ref xe) := Sta.start exe (Or.inl (hsets _ (List.mem_of_getElem? (i := 274) rfl)))
  have Eoe : Exa s s.heap xe "java/util/OptionalLong" := Exa.start exe (Cond.before_iff.mp (hsets _ (List.mem_of_getElem? (i := 275) rfl)))
  have Foe : Fld s s.heap xe "java/util/OptionalLong" "isPresent" "Z" (.int (0 : Int32)) := Fld.start ((fld_at exe).symm.trans (Cond.eq_int (hsets _ (List.mem_of_getElem? (i := 276) rfl)) rfl))
  have G : Gl s #[(.int i0), (.int i1), (.int i2), (.int i3)] s.heap.size := ⟨hw, ⟨zc, Scs, hzc⟩, hEL, ⟨xi, Sci, Eci⟩, ⟨xa, Sca, VA⟩, ⟨xe, Soe, Eoe, Foe⟩, trivial⟩
  have hCH : CHv s ([] : List (String × Nat)) s.vm s.heap := fun q hq => absurd hq List.not_mem_nil
  obtain ⟨n, o, h1, h2, h3, v, L, rfl, ⟨N, hQ⟩, -, hq⟩ := rm_law (l := l) G (Old.start s) i0 i1 i2 i3 p e ha hc hk s m _ below hf ((Spec.applies_iff_loose hf).mp happ).1 ⟨rfl, State.Warmed39.refl s, rfl, hCH⟩ trivial
  obtain rfl : v = some (.int 1) := hQ
  refine ⟨n, _, h1, h2, h3, hpost _ _ _ _ _ _ ⟨Cond.after_iff.mpr rfl, Cond.after_iff.mpr (eq_i res_at (Term.int_eval (1)) rfl), trivial⟩ ⟨hq.1, hq.2.1, hq.2.2.1, (hq.2.2.2.sift fun y hy => Or.inr (N y hy)).mono (by decide) (by decide)⟩⟩
theorem main_1_1 : Claimed_1_1 := comes_1 fun _ _ _ _ _ _ h hF => ⟨h.1, hF⟩
theorem main_1_2 : Claimed_1_2 := comes_1 fun _ _ _ _ _ _ h hF => ⟨h.2.1, hF⟩
end Jvm.Pilot.@@N@@
namespace Jvm.Pilot.@@N@@
open Jvm Jvm.ClassFile Sem Op Lib Jvm.Free Jvm.Stand Jvm.Pilot.@@N@@.Jvm.D
/-! MADE BY PROGRAM (witnessworld.py) out of the Statement's table words and the real class files: 24 classes; the members and pool entries that the words name. The judged class is class 1, her method 2. -/
namespace start1
open Jvm.ClassFile
def u (s : String) : CpInfo := .utf8 (stringToUtf16 s)
/-- a pool by its gaps: so many unusable entries, then the entry; so many at the end -/
def gap : Nat → List CpInfo → List CpInfo
  | 0, r => r
  | n + 1, r => .unusable :: gap n r
def poolList (es : List (Nat × CpInfo)) (last : Nat) : List CpInfo := es.foldr (fun e r => gap e.1 (e.2 :: r)) (gap last [])
def pool (es : List (Nat × CpInfo)) (last : Nat) : Array CpInfo := ⟨poolList es last⟩
def fileOf (pool : Array CpInfo) (this : Nat) (attrs : Array Attribute := #[]) (ms : Array MethodInfo := #[]) (fl : Nat := 33) (sup : Nat := 0) (ifs : Array Nat := #[]) (fds : Array FieldInfo := #[]) : ClassFile where
  minorVersion := 0
  majorVersion := 65
  constantPool := pool
  accessFlags := fl
  thisClass := this
  superClass := sup
  interfaces := ifs
  fields := fds
  methods := ms
  attributes := attrs
def plain (name : String) (sup : Option ClassId) : Class where
  name := name
  kind := .ordinary
  loader := none
  accessFlags := 33
  super := sup
  interfaces := #[]
  cf := none
  fields := #[]
  methods := #[]
  instanceTypes := #[]
  staticTypes := #[]
  resolved := #[]
  callSites := []
  init := .initialized
  statics := none
  mirror := none

def pool0 : Array CpInfo := pool [(5, u "<init>"), (0, u "()V"), (1, .class_ 10), (1, u "java/lang/Object")] 113

def k0c0 : Code := { maxStack := 0, maxLocals := 1, code := object_method_1_code, exceptionTable := #[], attributes := #[] }
def k0m0 : Method := { name := "<init>", desc := "()V", sig := { parameters := [], returnType := none }, accessFlags := 1, code := some k0c0 }
/-- java/lang/Object -/
def k0 : Class := { plain "java/lang/Object" none with
  accessFlags := 33
  interfaces := #[]
  cf := some (fileOf pool0 8 #[] #[{ accessFlags := 1, nameIndex := 5, descriptorIndex := 6, attributes := #[] }] 33 0 #[] #[])
  fields := #[]
  methods := #[k0m0]
  instanceTypes := #[]
  staticTypes := #[]
  resolved := Array.replicate 124 none
  statics := none }

def pool1 : Array CpInfo := pool [(2, .class_ 4), (1, u "java/lang/Object"), (0, u "<init>"), (0, u "()V"), (0, .methodref 8 9), (0, .class_ 10), (0, .nameAndType 11 12), (0, u "com/example/libhilo/libhilo/StoredSequenceUndefinedPinLaw"), (0, u "isWs"), (0, u "(C)Z"), (0, .class_ 14), (0, u "java/lang/String"), (0, .methodref 13 16), (0, .nameAndType 5 17), (0, u "([C)V"), (0, .methodref 19 20), (0, .class_ 21), (0, .nameAndType 22 23), (0, u "com/example/libhilo/libhilo/StoredSequence"), (0, u "undefined"), (0, u "(Ljava/lang/String;)Lcom/example/libhilo/libhilo/StoredSequence;"), (0, .methodref 19 25), (0, .nameAndType 26 27), (0, u "definition"), (0, u "()Lcom/example/libhilo/libhilo/SequenceSpec;"), (0, .methodref 29 30), (0, .class_ 31), (0, .nameAndType 32 33), (0, u "com/example/libhilo/libhilo/SequenceSpec"), (0, u "name"), (0, u "()Ljava/lang/String;"), (0, .methodref 13 35), (0, .nameAndType 36 37), (0, u "equals"), (0, u "(Ljava/lang/Object;)Z"), (0, .methodref 29 39), (0, .nameAndType 40 41), (0, u "increment"), (0, u "()J"), (0, .methodref 29 43), (0, .nameAndType 44 41), (0, u "start"), (0, .methodref 29 46), (0, .nameAndType 47 41), (0, u "minimum"), (0, .methodref 29 49), (0, .nameAndType 50 41), (0, u "maximum"), (2, .long 9223372036854775807), (1, .methodref 29 56), (0, .nameAndType 57 41), (0, u "limit"), (0, .methodref 19 59), (0, .nameAndType 60 61), (0, u "lastReserved"), (0, u "()Ljava/util/OptionalLong;"), (0, .methodref 63 64), (0, .class_ 65), (0, .nameAndType 66 67), (0, u "java/util/OptionalLong"), (0, u "isPresent"), (0, u "()Z"), (3, u "law"), (0, u "(IIII)Z")] 4

def k1m0 : Method := { name := "<init>", desc := "()V", sig := { parameters := [], returnType := none }, accessFlags := 1, code := none }
def k1c1 : Code := { maxStack := 2, maxLocals := 1, code := method_2_code, exceptionTable := #[], attributes := #[] }
def k1m1 : Method := { name := "isWs", desc := "(C)Z", sig := { parameters := [.char], returnType := some .boolean }, accessFlags := 10, code := some k1c1 }
def k1c2 : Code := { maxStack := 4, maxLocals := 14, code := code, exceptionTable := #[], attributes := #[] }
def k1m2 : Method := { name := "law", desc := "(IIII)Z", sig := { parameters := [.int, .int, .int, .int], returnType := some .boolean }, accessFlags := 9, code := some k1c2 }
/-- com/example/libhilo/libhilo/StoredSequenceUndefinedPinLaw -/
def k1 : Class := { plain "com/example/libhilo/libhilo/StoredSequenceUndefinedPinLaw" (some 0) with
  accessFlags := 49
  interfaces := #[]
  cf := some (fileOf pool1 8 #[] #[{ accessFlags := 1, nameIndex := 5, descriptorIndex := 6, attributes := #[] }, { accessFlags := 10, nameIndex := 11, descriptorIndex := 12, attributes := #[] }, { accessFlags := 9, nameIndex := 71, descriptorIndex := 72, attributes := #[] }] 49 2 #[] #[])
  fields := #[]
  methods := #[k1m0, k1m1, k1m2]
  instanceTypes := #[]
  staticTypes := #[]
  resolved := Array.replicate 77 none
  statics := none }

def pool2 : Array CpInfo := pool [(1, .class_ 2), (0, u "java/io/Serializable"), (0, .class_ 4), (0, u "java/lang/Object")] 2

/-- java/io/Serializable -/
def k2 : Class := { plain "java/io/Serializable" (some 0) with
  accessFlags := 1537
  interfaces := #[]
  cf := some (fileOf pool2 1 #[] #[] 1537 3 #[] #[])
  fields := #[]
  methods := #[]
  instanceTypes := #[]
  staticTypes := #[]
  resolved := Array.replicate 7 none
  statics := none }

def pool3 : Array CpInfo := pool [(1, .class_ 2), (0, u "java/lang/Comparable"), (0, .class_ 4), (0, u "java/lang/Object")] 7

/-- java/lang/Comparable -/
def k3 : Class := { plain "java/lang/Comparable" (some 0) with
  accessFlags := 1537
  interfaces := #[]
  cf := some (fileOf pool3 1 #[] #[] 1537 3 #[] #[])
  fields := #[]
  methods := #[]
  instanceTypes := #[]
  staticTypes := #[]
  resolved := Array.replicate 12 none
  statics := none }

def pool4 : Array CpInfo := pool [(2, .class_ 4), (1, u "java/lang/CharSequence"), (42, .class_ 48), (0, u "java/lang/CharSequence$1CodePointIterator"), (10, .class_ 60), (0, u "java/lang/CharSequence$1CharIterator"), (5, .class_ 67), (0, u "java/lang/Object")] 63

/-- java/lang/CharSequence -/
def k4 : Class := { plain "java/lang/CharSequence" (some 0) with
  accessFlags := 1537
  interfaces := #[]
  cf := some (fileOf pool4 2 #[.nestMembers #[47, 59]] #[] 1537 66 #[] #[])
  fields := #[]
  methods := #[]
  instanceTypes := #[]
  staticTypes := #[]
  resolved := Array.replicate 131 none
  statics := none }

def pool5 : Array CpInfo := pool [(1, .class_ 2), (0, u "java/lang/constant/Constable"), (0, .class_ 4), (0, u "java/lang/Object")] 6

/-- java/lang/constant/Constable -/
def k5 : Class := { plain "java/lang/constant/Constable" (some 0) with
  accessFlags := 1537
  interfaces := #[]
  cf := some (fileOf pool5 1 #[] #[] 1537 3 #[] #[])
  fields := #[]
  methods := #[]
  instanceTypes := #[]
  staticTypes := #[]
  resolved := Array.replicate 11 none
  statics := none }

def pool6 : Array CpInfo := pool [(1, .class_ 2), (0, u "java/lang/constant/ConstantDesc"), (0, .class_ 4), (0, u "java/lang/Object")] 32

/-- java/lang/constant/ConstantDesc -/
def k6 : Class := { plain "java/lang/constant/ConstantDesc" (some 0) with
  accessFlags := 1537
  interfaces := #[]
  cf := some (fileOf pool6 1 #[] #[] 1537 3 #[] #[])
  fields := #[]
  methods := #[]
  instanceTypes := #[]
  staticTypes := #[]
  resolved := Array.replicate 37 none
  statics := none }

def pool7 : Array CpInfo := pool [(1, .methodref 2 3), (0, .class_ 4), (0, .nameAndType 5 6), (0, u "java/lang/Object"), (0, u "<init>"), (0, u "()V"), (2, .fieldref 10 11), (0, .class_ 12), (0, .nameAndType 13 14), (0, u "java/lang/String"), (0, u "value"), (0, u "[B"), (0, .fieldref 10 16), (0, .nameAndType 17 18), (0, u "coder"), (0, u "B"), (2, u "hash"), (0, u "I"), (2, u "hashIsZero"), (0, u "Z"), (0, .methodref 10 28), (0, .nameAndType 5 29), (0, u "([CIILjava/lang/Void;)V"), (8, .fieldref 10 39), (0, .nameAndType 40 26), (0, u "COMPACT_STRINGS"), (1, .class_ 44), (1, u "java/lang/StringUTF16"), (0, u "compress"), (1, .methodref 42 48), (0, .nameAndType 49 50), (0, u "coderFromArrayLen"), (0, u "([BI)B"), (56, .class_ 109), (1, u "java/lang/StringLatin1"), (32, u "()Z"), (34, .methodref 42 178), (0, .nameAndType 45 179), (0, u "([CII)[B"), (154, u "()I"), (0, .methodref 10 336), (0, .nameAndType 17 337), (0, u "()B"), (154, .methodref 10 493), (0, .nameAndType 494 142), (0, u "isLatin1"), (10, .methodref 10 506), (0, .nameAndType 507 334), (0, u "length"), (35, u "equals"), (29, u "(Ljava/lang/Object;)Z"), (1, .class_ 576), (0, u "java/lang/CharSequence"), (22, u "CASE_INSENSITIVE_ORDER"), (0, u "Ljava/util/Comparator;"), (30, u "([B)I"), (244, .methodref 10 877), (0, .nameAndType 878 334), (0, u "indexOfNonWhitespace"), (45, .methodref 107 925), (0, .nameAndType 878 631), (26, u "isBlank"), (57, u "([C)V"), (90, u "serialPersistentFields"), (0, u "[Ljava/io/ObjectStreamField;"), (0, .class_ 1104), (0, u "java/lang/String$CaseInsensitiveComparator"), (1, .class_ 1107), (0, u "java/io/Serializable"), (0, .class_ 1109), (0, u "java/lang/Comparable"), (0, .class_ 1111), (0, u "java/lang/constant/Constable"), (0, .class_ 1113), (0, u "java/lang/constant/ConstantDesc"), (2, u "serialVersionUID"), (0, u "J"), (3, u "REPL"), (0, u "C"), (2, u "LATIN1"), (1, u "UTF16")] 323

def k7m0 : Method := { name := "<init>", desc := "()V", sig := { parameters := [], returnType := none }, accessFlags := 1, code := none }
def k7c1 : Code := { maxStack := 5, maxLocals := 2, code := jdk_42_method_3_code, exceptionTable := #[], attributes := #[] }
def k7m1 : Method := { name := "<init>", desc := "([C)V", sig := { parameters := [(.array .char)], returnType := none }, accessFlags := 1, code := some k7c1 }
def k7c2 : Code := { maxStack := 2, maxLocals := 1, code := jdk_42_method_54_code, exceptionTable := #[], attributes := #[] }
def k7m2 : Method := { name := "length", desc := "()I", sig := { parameters := [], returnType := some .int }, accessFlags := 1, code := some k7c2 }
def k7c3 : Code := { maxStack := 2, maxLocals := 3, code := jdk_42_method_66_code, exceptionTable := #[], attributes := #[] }
def k7m3 : Method := { name := "equals", desc := "(Ljava/lang/Object;)Z", sig := { parameters := [(.object "java/lang/Object")], returnType := some .boolean }, accessFlags := 1, code := some k7c3 }
def k7c4 : Code := { maxStack := 2, maxLocals := 1, code := jdk_42_method_117_code, exceptionTable := #[], attributes := #[] }
def k7m4 : Method := { name := "isBlank", desc := "()Z", sig := { parameters := [], returnType := some .boolean }, accessFlags := 1, code := some k7c4 }
def k7c5 : Code := { maxStack := 1, maxLocals := 1, code := jdk_42_method_120_code, exceptionTable := #[], attributes := #[] }
def k7m5 : Method := { name := "indexOfNonWhitespace", desc := "()I", sig := { parameters := [], returnType := some .int }, accessFlags := 2, code := some k7c5 }
def k7c6 : Code := { maxStack := 4, maxLocals := 6, code := jdk_42_method_149_code, exceptionTable := #[], attributes := #[] }
def k7m6 : Method := { name := "<init>", desc := "([CIILjava/lang/Void;)V", sig := { parameters := [(.array .char), .int, .int, (.object "java/lang/Void")], returnType := none }, accessFlags := 2, code := some k7c6 }
def k7c7 : Code := { maxStack := 1, maxLocals := 1, code := jdk_42_method_152_code, exceptionTable := #[], attributes := #[] }
def k7m7 : Method := { name := "coder", desc := "()B", sig := { parameters := [], returnType := some .byte }, accessFlags := 0, code := some k7c7 }
def k7c8 : Code := { maxStack := 1, maxLocals := 1, code := jdk_42_method_154_code, exceptionTable := #[], attributes := #[] }
def k7m8 : Method := { name := "isLatin1", desc := "()Z", sig := { parameters := [], returnType := some .boolean }, accessFlags := 0, code := some k7c8 }
/-- java/lang/String -/
def k7 : Class := { plain "java/lang/String" (some 0) with
  accessFlags := 49
  interfaces := #[2, 3, 4, 5, 6]
  cf := some (fileOf pool7 10 #[.nestMembers #[1103]] #[{ accessFlags := 1, nameIndex := 5, descriptorIndex := 6, attributes := #[] }, { accessFlags := 1, nameIndex := 5, descriptorIndex := 1010, attributes := #[] }, { accessFlags := 1, nameIndex := 507, descriptorIndex := 334, attributes := #[] }, { accessFlags := 1, nameIndex := 543, descriptorIndex := 573, attributes := #[] }, { accessFlags := 1, nameIndex := 952, descriptorIndex := 142, attributes := #[] }, { accessFlags := 2, nameIndex := 878, descriptorIndex := 334, attributes := #[] }, { accessFlags := 2, nameIndex := 5, descriptorIndex := 29, attributes := #[] }, { accessFlags := 0, nameIndex := 17, descriptorIndex := 337, attributes := #[] }, { accessFlags := 0, nameIndex := 494, descriptorIndex := 142, attributes := #[] }] 49 2 #[1106, 1108, 575, 1110, 1112] #[{ accessFlags := 18, nameIndex := 13, descriptorIndex := 14, attributes := #[] }, { accessFlags := 18, nameIndex := 17, descriptorIndex := 18, attributes := #[] }, { accessFlags := 2, nameIndex := 21, descriptorIndex := 22, attributes := #[] }, { accessFlags := 2, nameIndex := 25, descriptorIndex := 26, attributes := #[] }, { accessFlags := 26, nameIndex := 1116, descriptorIndex := 1117, attributes := #[] }, { accessFlags := 24, nameIndex := 40, descriptorIndex := 26, attributes := #[] }, { accessFlags := 26, nameIndex := 1101, descriptorIndex := 1102, attributes := #[] }, { accessFlags := 26, nameIndex := 1121, descriptorIndex := 1122, attributes := #[] }, { accessFlags := 25, nameIndex := 599, descriptorIndex := 600, attributes := #[] }, { accessFlags := 24, nameIndex := 1125, descriptorIndex := 18, attributes := #[] }, { accessFlags := 24, nameIndex := 1127, descriptorIndex := 18, attributes := #[] }])
  fields := #[{ name := "value", type := (.array .byte), accessFlags := 18, slot := 0, constantValue := 0 }, { name := "coder", type := .byte, accessFlags := 18, slot := 1, constantValue := 0 }, { name := "hash", type := .int, accessFlags := 2, slot := 2, constantValue := 0 }, { name := "hashIsZero", type := .boolean, accessFlags := 2, slot := 3, constantValue := 0 }, { name := "serialVersionUID", type := .long, accessFlags := 26, slot := 0, constantValue := 0 }, { name := "COMPACT_STRINGS", type := .boolean, accessFlags := 24, slot := 1, constantValue := 0 }, { name := "serialPersistentFields", type := (.array (.object "java/io/ObjectStreamField")), accessFlags := 26, slot := 2, constantValue := 0 }, { name := "REPL", type := .char, accessFlags := 26, slot := 3, constantValue := 0 }, { name := "CASE_INSENSITIVE_ORDER", type := (.object "java/util/Comparator"), accessFlags := 25, slot := 4, constantValue := 0 }, { name := "LATIN1", type := .byte, accessFlags := 24, slot := 5, constantValue := 0 }, { name := "UTF16", type := .byte, accessFlags := 24, slot := 6, constantValue := 0 }]
  methods := #[k7m0, k7m1, k7m2, k7m3, k7m4, k7m5, k7m6, k7m7, k7m8]
  instanceTypes := #[(.array .byte), .byte, .int, .boolean]
  staticTypes := #[.long, .boolean, (.array (.object "java/io/ObjectStreamField")), .char, (.object "java/util/Comparator"), .byte, .byte]
  resolved := Array.replicate 1451 none
  statics := some 0 }

def pool8 : Array CpInfo := pool [(6, .class_ 8), (1, u "java/lang/Object"), (0, u "<init>"), (0, u "()V"), (1, .class_ 14), (1, u "java/lang/StringUTF16"), (31, u "$assertionsDisabled"), (0, u "Z"), (13, u "HI_BYTE_SHIFT"), (0, u "I"), (2, u "LO_BYTE_SHIFT"), (49, .methodref 12 116), (0, .nameAndType 117 118), (0, u "compress"), (0, u "([CI[BII)I"), (3, u "([CII)[B"), (138, u "coderFromArrayLen"), (0, u "([BI)B"), (106, .class_ 371), (1, u "java/lang/StringUTF16$LinesSpliterator"), (58, u "MAX_LENGTH"), (196, .class_ 628), (0, u "java/lang/StringUTF16$CodePointsSpliterator"), (0, .class_ 630), (0, u "java/lang/StringUTF16$CharsSpliterator")] 4

def k8m0 : Method := { name := "<init>", desc := "()V", sig := { parameters := [], returnType := none }, accessFlags := 0, code := none }
def k8c1 : Code := { maxStack := 2, maxLocals := 2, code := jdk_52_method_15_code, exceptionTable := #[], attributes := #[] }
def k8m1 : Method := { name := "coderFromArrayLen", desc := "([BI)B", sig := { parameters := [(.array .byte), .int], returnType := some .byte }, accessFlags := 8, code := some k8c1 }
def k8c2 : Code := { maxStack := 5, maxLocals := 6, code := jdk_52_method_16_code, exceptionTable := #[], attributes := #[] }
def k8m2 : Method := { name := "compress", desc := "([CII)[B", sig := { parameters := [(.array .char), .int, .int], returnType := some (.array .byte) }, accessFlags := 9, code := some k8c2 }
def k8c3 : Code := { maxStack := 3, maxLocals := 7, code := jdk_52_method_21_code, exceptionTable := #[], attributes := #[] }
def k8m3 : Method := { name := "compress", desc := "([CI[BII)I", sig := { parameters := [(.array .char), .int, (.array .byte), .int, .int], returnType := some .int }, accessFlags := 9, code := some k8c3 }
/-- java/lang/StringUTF16 -/
def k8 : Class := { plain "java/lang/StringUTF16" (some 0) with
  accessFlags := 48
  interfaces := #[]
  cf := some (fileOf pool8 12 #[.nestMembers #[627, 629, 369]] #[{ accessFlags := 0, nameIndex := 9, descriptorIndex := 10, attributes := #[] }, { accessFlags := 8, nameIndex := 261, descriptorIndex := 262, attributes := #[] }, { accessFlags := 9, nameIndex := 117, descriptorIndex := 122, attributes := #[] }, { accessFlags := 9, nameIndex := 117, descriptorIndex := 118, attributes := #[] }] 48 6 #[] #[{ accessFlags := 26, nameIndex := 61, descriptorIndex := 62, attributes := #[] }, { accessFlags := 26, nameIndex := 65, descriptorIndex := 62, attributes := #[] }, { accessFlags := 24, nameIndex := 430, descriptorIndex := 62, attributes := #[] }, { accessFlags := 4120, nameIndex := 46, descriptorIndex := 47, attributes := #[] }])
  fields := #[{ name := "HI_BYTE_SHIFT", type := .int, accessFlags := 26, slot := 0, constantValue := 0 }, { name := "LO_BYTE_SHIFT", type := .int, accessFlags := 26, slot := 1, constantValue := 0 }, { name := "MAX_LENGTH", type := .int, accessFlags := 24, slot := 2, constantValue := 0 }, { name := "$assertionsDisabled", type := .boolean, accessFlags := 4120, slot := 3, constantValue := 0 }]
  methods := #[k8m0, k8m1, k8m2, k8m3]
  instanceTypes := #[]
  staticTypes := #[.int, .int, .int, .boolean]
  resolved := Array.replicate 635 none
  statics := none }

def pool9 : Array CpInfo := pool [(1, .methodref 2 3), (0, .class_ 4), (0, .nameAndType 5 6), (0, u "java/lang/Object"), (0, u "<init>"), (0, u "()V"), (0, .string 8), (0, u "definition"), (0, .methodref 10 11), (0, .class_ 12), (0, .nameAndType 13 14), (0, u "java/util/Objects"), (0, u "requireNonNull"), (0, u "(Ljava/lang/Object;Ljava/lang/String;)Ljava/lang/Object;"), (0, .class_ 16), (0, u "com/example/libhilo/libhilo/SequenceSpec"), (0, .fieldref 18 19), (0, .class_ 20), (0, .nameAndType 8 21), (0, u "com/example/libhilo/libhilo/StoredSequence"), (0, u "Lcom/example/libhilo/libhilo/SequenceSpec;"), (0, .string 23), (0, u "lastReserved"), (0, .class_ 25), (0, u "java/util/OptionalLong"), (0, .fieldref 18 27), (0, .nameAndType 23 28), (0, u "Ljava/util/OptionalLong;"), (0, .methodref 15 30), (0, .nameAndType 31 32), (0, u "named"), (0, u "(Ljava/lang/String;)Lcom/example/libhilo/libhilo/SequenceSpec;"), (0, .methodref 24 34), (0, .nameAndType 35 36), (0, u "empty"), (0, u "()Ljava/util/OptionalLong;"), (0, .methodref 18 38), (0, .nameAndType 5 39), (0, u "(Lcom/example/libhilo/libhilo/SequenceSpec;Ljava/util/OptionalLong;)V"), (2, u "undefined"), (0, u "(Ljava/lang/String;)Lcom/example/libhilo/libhilo/StoredSequence;"), (0, u "()Lcom/example/libhilo/libhilo/SequenceSpec;")] 2

def k9c0 : Code := { maxStack := 3, maxLocals := 3, code := prog_12_method_1_code, exceptionTable := #[], attributes := #[] }
def k9m0 : Method := { name := "<init>", desc := "(Lcom/example/libhilo/libhilo/SequenceSpec;Ljava/util/OptionalLong;)V", sig := { parameters := [(.object "com/example/libhilo/libhilo/SequenceSpec"), (.object "java/util/OptionalLong")], returnType := none }, accessFlags := 1, code := some k9c0 }
def k9c1 : Code := { maxStack := 4, maxLocals := 1, code := prog_12_method_2_code, exceptionTable := #[], attributes := #[] }
def k9m1 : Method := { name := "undefined", desc := "(Ljava/lang/String;)Lcom/example/libhilo/libhilo/StoredSequence;", sig := { parameters := [(.object "java/lang/String")], returnType := some (.object "com/example/libhilo/libhilo/StoredSequence") }, accessFlags := 9, code := some k9c1 }
def k9c2 : Code := { maxStack := 1, maxLocals := 1, code := prog_12_method_3_code, exceptionTable := #[], attributes := #[] }
def k9m2 : Method := { name := "definition", desc := "()Lcom/example/libhilo/libhilo/SequenceSpec;", sig := { parameters := [], returnType := some (.object "com/example/libhilo/libhilo/SequenceSpec") }, accessFlags := 1, code := some k9c2 }
def k9c3 : Code := { maxStack := 1, maxLocals := 1, code := prog_12_method_4_code, exceptionTable := #[], attributes := #[] }
def k9m3 : Method := { name := "lastReserved", desc := "()Ljava/util/OptionalLong;", sig := { parameters := [], returnType := some (.object "java/util/OptionalLong") }, accessFlags := 1, code := some k9c3 }
/-- com/example/libhilo/libhilo/StoredSequence -/
def k9 : Class := { plain "com/example/libhilo/libhilo/StoredSequence" (some 0) with
  accessFlags := 33
  interfaces := #[]
  cf := some (fileOf pool9 18 #[] #[{ accessFlags := 1, nameIndex := 5, descriptorIndex := 39, attributes := #[] }, { accessFlags := 9, nameIndex := 42, descriptorIndex := 43, attributes := #[] }, { accessFlags := 1, nameIndex := 8, descriptorIndex := 44, attributes := #[] }, { accessFlags := 1, nameIndex := 23, descriptorIndex := 36, attributes := #[] }] 33 2 #[] #[{ accessFlags := 18, nameIndex := 8, descriptorIndex := 21, attributes := #[] }, { accessFlags := 18, nameIndex := 23, descriptorIndex := 28, attributes := #[] }])
  fields := #[{ name := "definition", type := (.object "com/example/libhilo/libhilo/SequenceSpec"), accessFlags := 18, slot := 0, constantValue := 0 }, { name := "lastReserved", type := (.object "java/util/OptionalLong"), accessFlags := 18, slot := 1, constantValue := 0 }]
  methods := #[k9m0, k9m1, k9m2, k9m3]
  instanceTypes := #[(.object "com/example/libhilo/libhilo/SequenceSpec"), (.object "java/util/OptionalLong")]
  staticTypes := #[]
  resolved := Array.replicate 47 none
  statics := none }

def pool10 : Array CpInfo := pool [(1, .methodref 2 3), (0, .class_ 4), (0, .nameAndType 5 6), (0, u "java/lang/Object"), (0, u "<init>"), (0, u "()V"), (0, .fieldref 8 9), (0, .class_ 10), (0, .nameAndType 11 12), (0, u "com/example/libhilo/libhilo/SequenceSpec"), (0, u "name"), (0, u "Ljava/lang/String;"), (0, .fieldref 8 14), (0, .nameAndType 15 16), (0, u "increment"), (0, u "J"), (0, .fieldref 8 18), (0, .nameAndType 19 20), (0, u "start"), (0, u "Ljava/lang/Long;"), (0, .fieldref 8 22), (0, .nameAndType 23 20), (0, u "minimum"), (0, .fieldref 8 25), (0, .nameAndType 26 20), (0, u "maximum"), (0, .methodref 8 28), (0, .nameAndType 29 30), (0, u "requireValidName"), (0, u "(Ljava/lang/String;)V"), (0, .methodref 8 32), (0, .nameAndType 5 33), (0, u "(Ljava/lang/String;JLjava/lang/Long;Ljava/lang/Long;Ljava/lang/Long;)V"), (0, .string 11), (0, .methodref 36 37), (0, .class_ 38), (0, .nameAndType 39 40), (0, u "java/util/Objects"), (0, u "requireNonNull"), (0, u "(Ljava/lang/Object;Ljava/lang/String;)Ljava/lang/Object;"), (0, .methodref 42 43), (0, .class_ 44), (0, .nameAndType 45 46), (0, u "java/lang/String"), (0, u "isBlank"), (0, u "()Z"), (20, .methodref 8 68), (0, .nameAndType 23 69), (0, u "()J"), (0, .methodref 8 71), (0, .nameAndType 26 69), (0, .methodref 8 73), (0, .nameAndType 74 75), (0, u "setOrDefault"), (0, u "(Ljava/lang/Long;JJ)J"), (0, .long 9223372036854775808), (1, .long 9223372036854775807), (1, .long 18446744073709551615), (56, u "named"), (0, u "(Ljava/lang/String;)Lcom/example/libhilo/libhilo/SequenceSpec;"), (2, u "()Ljava/lang/String;"), (0, u "limit")] 32

def k10c0 : Code := { maxStack := 3, maxLocals := 7, code := prog_8_method_1_code, exceptionTable := #[], attributes := #[] }
def k10m0 : Method := { name := "<init>", desc := "(Ljava/lang/String;JLjava/lang/Long;Ljava/lang/Long;Ljava/lang/Long;)V", sig := { parameters := [(.object "java/lang/String"), .long, (.object "java/lang/Long"), (.object "java/lang/Long"), (.object "java/lang/Long")], returnType := none }, accessFlags := 2, code := some k10c0 }
def k10c1 : Code := { maxStack := 8, maxLocals := 1, code := prog_8_method_2_code, exceptionTable := #[], attributes := #[] }
def k10m1 : Method := { name := "named", desc := "(Ljava/lang/String;)Lcom/example/libhilo/libhilo/SequenceSpec;", sig := { parameters := [(.object "java/lang/String")], returnType := some (.object "com/example/libhilo/libhilo/SequenceSpec") }, accessFlags := 9, code := some k10c1 }
def k10c2 : Code := { maxStack := 3, maxLocals := 1, code := prog_8_method_3_code, exceptionTable := #[], attributes := #[] }
def k10m2 : Method := { name := "requireValidName", desc := "(Ljava/lang/String;)V", sig := { parameters := [(.object "java/lang/String")], returnType := none }, accessFlags := 8, code := some k10c2 }
def k10c3 : Code := { maxStack := 1, maxLocals := 1, code := prog_8_method_8_code, exceptionTable := #[], attributes := #[] }
def k10m3 : Method := { name := "name", desc := "()Ljava/lang/String;", sig := { parameters := [], returnType := some (.object "java/lang/String") }, accessFlags := 1, code := some k10c3 }
def k10c4 : Code := { maxStack := 2, maxLocals := 1, code := prog_8_method_9_code, exceptionTable := #[], attributes := #[] }
def k10m4 : Method := { name := "increment", desc := "()J", sig := { parameters := [], returnType := some .long }, accessFlags := 1, code := some k10c4 }
def k10c5 : Code := { maxStack := 6, maxLocals := 1, code := prog_8_method_10_code, exceptionTable := #[], attributes := #[] }
def k10m5 : Method := { name := "start", desc := "()J", sig := { parameters := [], returnType := some .long }, accessFlags := 1, code := some k10c5 }
def k10c6 : Code := { maxStack := 6, maxLocals := 1, code := prog_8_method_11_code, exceptionTable := #[], attributes := #[] }
def k10m6 : Method := { name := "minimum", desc := "()J", sig := { parameters := [], returnType := some .long }, accessFlags := 1, code := some k10c6 }
def k10c7 : Code := { maxStack := 6, maxLocals := 1, code := prog_8_method_12_code, exceptionTable := #[], attributes := #[] }
def k10m7 : Method := { name := "maximum", desc := "()J", sig := { parameters := [], returnType := some .long }, accessFlags := 1, code := some k10c7 }
def k10c8 : Code := { maxStack := 4, maxLocals := 3, code := prog_8_method_13_code, exceptionTable := #[], attributes := #[] }
def k10m8 : Method := { name := "limit", desc := "()J", sig := { parameters := [], returnType := some .long }, accessFlags := 0, code := some k10c8 }
def k10c9 : Code := { maxStack := 4, maxLocals := 8, code := prog_8_method_17_code, exceptionTable := #[], attributes := #[] }
def k10m9 : Method := { name := "setOrDefault", desc := "(Ljava/lang/Long;JJ)J", sig := { parameters := [(.object "java/lang/Long"), .long, .long], returnType := some .long }, accessFlags := 2, code := some k10c9 }
/-- com/example/libhilo/libhilo/SequenceSpec -/
def k10 : Class := { plain "com/example/libhilo/libhilo/SequenceSpec" (some 0) with
  accessFlags := 33
  interfaces := #[]
  cf := some (fileOf pool10 8 #[] #[{ accessFlags := 2, nameIndex := 5, descriptorIndex := 33, attributes := #[] }, { accessFlags := 9, nameIndex := 137, descriptorIndex := 138, attributes := #[] }, { accessFlags := 8, nameIndex := 29, descriptorIndex := 30, attributes := #[] }, { accessFlags := 1, nameIndex := 11, descriptorIndex := 141, attributes := #[] }, { accessFlags := 1, nameIndex := 15, descriptorIndex := 69, attributes := #[] }, { accessFlags := 1, nameIndex := 19, descriptorIndex := 69, attributes := #[] }, { accessFlags := 1, nameIndex := 23, descriptorIndex := 69, attributes := #[] }, { accessFlags := 1, nameIndex := 26, descriptorIndex := 69, attributes := #[] }, { accessFlags := 0, nameIndex := 142, descriptorIndex := 69, attributes := #[] }, { accessFlags := 2, nameIndex := 74, descriptorIndex := 75, attributes := #[] }] 33 2 #[] #[{ accessFlags := 18, nameIndex := 11, descriptorIndex := 12, attributes := #[] }, { accessFlags := 18, nameIndex := 15, descriptorIndex := 16, attributes := #[] }, { accessFlags := 18, nameIndex := 19, descriptorIndex := 20, attributes := #[] }, { accessFlags := 18, nameIndex := 23, descriptorIndex := 20, attributes := #[] }, { accessFlags := 18, nameIndex := 26, descriptorIndex := 20, attributes := #[] }])
  fields := #[{ name := "name", type := (.object "java/lang/String"), accessFlags := 18, slot := 0, constantValue := 0 }, { name := "increment", type := .long, accessFlags := 18, slot := 1, constantValue := 0 }, { name := "start", type := (.object "java/lang/Long"), accessFlags := 18, slot := 2, constantValue := 0 }, { name := "minimum", type := (.object "java/lang/Long"), accessFlags := 18, slot := 3, constantValue := 0 }, { name := "maximum", type := (.object "java/lang/Long"), accessFlags := 18, slot := 4, constantValue := 0 }]
  methods := #[k10m0, k10m1, k10m2, k10m3, k10m4, k10m5, k10m6, k10m7, k10m8, k10m9]
  instanceTypes := #[(.object "java/lang/String"), .long, (.object "java/lang/Long"), (.object "java/lang/Long"), (.object "java/lang/Long")]
  staticTypes := #[]
  resolved := Array.replicate 175 none
  statics := none }

def pool11 : Array CpInfo := pool [(2, .class_ 4), (1, u "java/lang/Object"), (0, u "<init>"), (0, u "()V"), (35, .class_ 44), (1, u "java/util/Objects"), (0, u "requireNonNull"), (48, u "(Ljava/lang/Object;Ljava/lang/String;)Ljava/lang/Object;")] 89

def k11m0 : Method := { name := "<init>", desc := "()V", sig := { parameters := [], returnType := none }, accessFlags := 2, code := none }
def k11c1 : Code := { maxStack := 3, maxLocals := 2, code := jdk_31_method_11_code, exceptionTable := #[], attributes := #[] }
def k11m1 : Method := { name := "requireNonNull", desc := "(Ljava/lang/Object;Ljava/lang/String;)Ljava/lang/Object;", sig := { parameters := [(.object "java/lang/Object"), (.object "java/lang/String")], returnType := some (.object "java/lang/Object") }, accessFlags := 9, code := some k11c1 }
/-- java/util/Objects -/
def k11 : Class := { plain "java/util/Objects" (some 0) with
  accessFlags := 49
  interfaces := #[]
  cf := some (fileOf pool11 42 #[] #[{ accessFlags := 2, nameIndex := 5, descriptorIndex := 6, attributes := #[] }, { accessFlags := 9, nameIndex := 45, descriptorIndex := 94, attributes := #[] }] 49 2 #[] #[])
  fields := #[]
  methods := #[k11m0, k11m1]
  instanceTypes := #[]
  staticTypes := #[]
  resolved := Array.replicate 184 none
  statics := none }

def pool12 : Array CpInfo := pool [(4, .class_ 6), (1, u "java/lang/Object"), (0, u "<init>"), (0, u "()V"), (5, .class_ 16), (1, u "java/lang/StringLatin1"), (33, .methodref 14 51), (0, .nameAndType 52 53), (0, u "getChar"), (0, u "([BI)C"), (3, u "([B)I"), (8, .fieldref 67 68), (0, .class_ 69), (0, .nameAndType 70 71), (0, u "java/lang/CharacterDataLatin1"), (0, u "instance"), (0, u "Ljava/lang/CharacterDataLatin1;"), (19, u "(I)Z"), (29, u "$assertionsDisabled"), (0, u "Z"), (88, .methodref 67 212), (0, .nameAndType 213 91), (0, u "isWhitespace"), (2, u "indexOfNonWhitespace"), (4, .class_ 223), (1, u "java/lang/StringLatin1$LinesSpliterator"), (166, .class_ 391), (0, u "java/lang/StringLatin1$CharsSpliterator")] 3

def k12m0 : Method := { name := "<init>", desc := "()V", sig := { parameters := [], returnType := none }, accessFlags := 0, code := none }
def k12c1 : Code := { maxStack := 2, maxLocals := 4, code := jdk_43_method_37_code, exceptionTable := #[], attributes := #[] }
def k12m1 : Method := { name := "indexOfNonWhitespace", desc := "([B)I", sig := { parameters := [(.array .byte)], returnType := some .int }, accessFlags := 9, code := some k12c1 }
def k12c2 : Code := { maxStack := 2, maxLocals := 2, code := jdk_43_method_44_code, exceptionTable := #[], attributes := #[] }
def k12m2 : Method := { name := "getChar", desc := "([BI)C", sig := { parameters := [(.array .byte), .int], returnType := some .char }, accessFlags := 9, code := some k12c2 }
/-- java/lang/StringLatin1 -/
def k12 : Class := { plain "java/lang/StringLatin1" (some 0) with
  accessFlags := 48
  interfaces := #[]
  cf := some (fileOf pool12 14 #[.nestMembers #[390, 221]] #[{ accessFlags := 0, nameIndex := 7, descriptorIndex := 8, attributes := #[] }, { accessFlags := 9, nameIndex := 216, descriptorIndex := 57, attributes := #[] }, { accessFlags := 9, nameIndex := 52, descriptorIndex := 53, attributes := #[] }] 48 4 #[] #[{ accessFlags := 4120, nameIndex := 121, descriptorIndex := 122, attributes := #[] }])
  fields := #[{ name := "$assertionsDisabled", type := .boolean, accessFlags := 4120, slot := 0, constantValue := 0 }]
  methods := #[k12m0, k12m1, k12m2]
  instanceTypes := #[]
  staticTypes := #[.boolean]
  resolved := Array.replicate 395 none
  statics := none }

def pool13 : Array CpInfo := pool [(2, .class_ 4), (1, u "java/lang/Object"), (0, u "<init>"), (0, u "()V"), (1, .class_ 10), (1, u "java/lang/CharacterData")] 75

def k13m0 : Method := { name := "<init>", desc := "()V", sig := { parameters := [], returnType := none }, accessFlags := 0, code := none }
/-- java/lang/CharacterData -/
def k13 : Class := { plain "java/lang/CharacterData" (some 0) with
  accessFlags := 1056
  interfaces := #[]
  cf := some (fileOf pool13 8 #[] #[{ accessFlags := 0, nameIndex := 5, descriptorIndex := 6, attributes := #[] }] 1056 2 #[] #[])
  fields := #[]
  methods := #[k13m0]
  instanceTypes := #[]
  staticTypes := #[]
  resolved := Array.replicate 86 none
  statics := none }

def pool14 : Array CpInfo := pool [(1, .fieldref 2 3), (0, .class_ 4), (0, .nameAndType 5 6), (0, u "java/lang/CharacterDataLatin1"), (0, u "A"), (0, u "[I"), (2, u "B"), (0, u "[C"), (3, u "(I)I"), (0, .methodref 2 16), (0, .nameAndType 17 14), (0, u "getProperties"), (3, u "(I)Z"), (5, u "DIGITS"), (0, u "[B"), (8, u "sharpsMap"), (1, .class_ 41), (1, u "java/lang/CharacterData"), (0, u "<init>"), (0, u "()V"), (3, u "instance"), (0, u "Ljava/lang/CharacterDataLatin1;"), (78, u "isWhitespace")] 13

def k14c0 : Code := { maxStack := 2, maxLocals := 4, code := jdk_116_method_1_code, exceptionTable := #[], attributes := #[] }
def k14m0 : Method := { name := "getProperties", desc := "(I)I", sig := { parameters := [.int], returnType := some .int }, accessFlags := 0, code := some k14c0 }
def k14c1 : Code := { maxStack := 2, maxLocals := 3, code := jdk_116_method_26_code, exceptionTable := #[], attributes := #[] }
def k14m1 : Method := { name := "isWhitespace", desc := "(I)Z", sig := { parameters := [.int], returnType := some .boolean }, accessFlags := 0, code := some k14c1 }
def k14m2 : Method := { name := "<init>", desc := "()V", sig := { parameters := [], returnType := none }, accessFlags := 2, code := none }
/-- java/lang/CharacterDataLatin1 -/
def k14 : Class := { plain "java/lang/CharacterDataLatin1" (some 13) with
  accessFlags := 32
  interfaces := #[]
  cf := some (fileOf pool14 2 #[] #[{ accessFlags := 0, nameIndex := 17, descriptorIndex := 14, attributes := #[] }, { accessFlags := 0, nameIndex := 127, descriptorIndex := 21, attributes := #[] }, { accessFlags := 2, nameIndex := 42, descriptorIndex := 43, attributes := #[] }] 32 39 #[] #[{ accessFlags := 26, nameIndex := 27, descriptorIndex := 28, attributes := #[] }, { accessFlags := 8, nameIndex := 37, descriptorIndex := 10, attributes := #[] }, { accessFlags := 24, nameIndex := 47, descriptorIndex := 48, attributes := #[] }, { accessFlags := 24, nameIndex := 5, descriptorIndex := 6, attributes := #[] }, { accessFlags := 24, nameIndex := 9, descriptorIndex := 10, attributes := #[] }])
  fields := #[{ name := "DIGITS", type := (.array .byte), accessFlags := 26, slot := 0, constantValue := 0 }, { name := "sharpsMap", type := (.array .char), accessFlags := 8, slot := 1, constantValue := 0 }, { name := "instance", type := (.object "java/lang/CharacterDataLatin1"), accessFlags := 24, slot := 2, constantValue := 0 }, { name := "A", type := (.array .int), accessFlags := 24, slot := 3, constantValue := 0 }, { name := "B", type := (.array .char), accessFlags := 24, slot := 4, constantValue := 0 }]
  methods := #[k14m0, k14m1, k14m2]
  instanceTypes := #[]
  staticTypes := #[(.array .byte), (.array .char), (.object "java/lang/CharacterDataLatin1"), (.array .int), (.array .char)]
  resolved := Array.replicate 141 none
  statics := some 1 }

def pool15 : Array CpInfo := pool [(2, .class_ 4), (1, u "java/lang/Object"), (0, u "<init>"), (0, u "()V"), (0, .fieldref 8 9), (0, .class_ 10), (0, .nameAndType 11 12), (0, u "java/util/OptionalLong"), (0, u "isPresent"), (0, u "Z"), (2, u "value"), (0, u "J"), (0, .fieldref 8 18), (0, .nameAndType 19 20), (0, u "EMPTY"), (0, u "Ljava/util/OptionalLong;"), (28, u "empty"), (46, u "()Ljava/util/OptionalLong;"), (2, u "()Z")] 38

def k15m0 : Method := { name := "<init>", desc := "()V", sig := { parameters := [], returnType := none }, accessFlags := 2, code := none }
def k15c1 : Code := { maxStack := 1, maxLocals := 0, code := jdk_2650_method_2_code, exceptionTable := #[], attributes := #[] }
def k15m1 : Method := { name := "empty", desc := "()Ljava/util/OptionalLong;", sig := { parameters := [], returnType := some (.object "java/util/OptionalLong") }, accessFlags := 9, code := some k15c1 }
def k15c2 : Code := { maxStack := 1, maxLocals := 1, code := jdk_2650_method_6_code, exceptionTable := #[], attributes := #[] }
def k15m2 : Method := { name := "isPresent", desc := "()Z", sig := { parameters := [], returnType := some .boolean }, accessFlags := 1, code := some k15c2 }
/-- java/util/OptionalLong -/
def k15 : Class := { plain "java/util/OptionalLong" (some 0) with
  accessFlags := 49
  interfaces := #[]
  cf := some (fileOf pool15 8 #[] #[{ accessFlags := 2, nameIndex := 5, descriptorIndex := 6, attributes := #[] }, { accessFlags := 9, nameIndex := 49, descriptorIndex := 96, attributes := #[] }, { accessFlags := 1, nameIndex := 11, descriptorIndex := 99, attributes := #[] }] 49 2 #[] #[{ accessFlags := 26, nameIndex := 19, descriptorIndex := 20, attributes := #[] }, { accessFlags := 18, nameIndex := 11, descriptorIndex := 12, attributes := #[] }, { accessFlags := 18, nameIndex := 15, descriptorIndex := 16, attributes := #[] }])
  fields := #[{ name := "EMPTY", type := (.object "java/util/OptionalLong"), accessFlags := 26, slot := 0, constantValue := 0 }, { name := "isPresent", type := .boolean, accessFlags := 18, slot := 0, constantValue := 0 }, { name := "value", type := .long, accessFlags := 18, slot := 1, constantValue := 0 }]
  methods := #[k15m0, k15m1, k15m2]
  instanceTypes := #[.boolean, .long]
  staticTypes := #[(.object "java/util/OptionalLong")]
  resolved := Array.replicate 138 none
  statics := some 2 }

def pool16 : Array CpInfo := pool [(2, .class_ 4), (1, u "java/lang/Object"), (0, u "<init>"), (0, u "()V"), (17, .class_ 26), (1, u "jdk/internal/util/Preconditions"), (28, .class_ 56), (0, u "jdk/internal/util/Preconditions$4"), (57, .class_ 115), (0, u "jdk/internal/util/Preconditions$1"), (7, u "SIOOBE_FORMATTER"), (0, u "Ljava/util/function/BiFunction;"), (0, .class_ 126), (0, u "jdk/internal/util/Preconditions$2"), (3, u "AIOOBE_FORMATTER"), (0, .class_ 132), (0, u "jdk/internal/util/Preconditions$3"), (3, u "IOOBE_FORMATTER")] 57

def k16m0 : Method := { name := "<init>", desc := "()V", sig := { parameters := [], returnType := none }, accessFlags := 1, code := none }
/-- jdk/internal/util/Preconditions -/
def k16 : Class := { plain "jdk/internal/util/Preconditions" (some 0) with
  accessFlags := 33
  interfaces := #[]
  cf := some (fileOf pool16 24 #[.nestMembers #[55, 131, 125, 114]] #[{ accessFlags := 1, nameIndex := 5, descriptorIndex := 6, attributes := #[] }] 33 2 #[] #[{ accessFlags := 25, nameIndex := 123, descriptorIndex := 124, attributes := #[] }, { accessFlags := 25, nameIndex := 130, descriptorIndex := 124, attributes := #[] }, { accessFlags := 25, nameIndex := 136, descriptorIndex := 124, attributes := #[] }])
  fields := #[{ name := "SIOOBE_FORMATTER", type := (.object "java/util/function/BiFunction"), accessFlags := 25, slot := 0, constantValue := 0 }, { name := "AIOOBE_FORMATTER", type := (.object "java/util/function/BiFunction"), accessFlags := 25, slot := 1, constantValue := 0 }, { name := "IOOBE_FORMATTER", type := (.object "java/util/function/BiFunction"), accessFlags := 25, slot := 2, constantValue := 0 }]
  methods := #[k16m0]
  instanceTypes := #[]
  staticTypes := #[(.object "java/util/function/BiFunction"), (.object "java/util/function/BiFunction"), (.object "java/util/function/BiFunction")]
  resolved := Array.replicate 194 none
  statics := some 3 }

def pool17 : Array CpInfo := pool [(1, u "java/lang/Cloneable"), (0, .class_ 1), (0, u "java/lang/Object"), (0, .class_ 3)] 3

/-- java/lang/Cloneable -/
def k17 : Class := { plain "java/lang/Cloneable" (some 0) with
  accessFlags := 1537
  interfaces := #[]
  cf := some (fileOf pool17 2 #[] #[] 1537 4 #[] #[])
  fields := #[]
  methods := #[]
  instanceTypes := #[]
  staticTypes := #[]
  resolved := Array.replicate 8 none
  statics := none }

/-- the primitive byte -/
def k18 : Class := { plain "byte" none with kind := .primitive 'B', accessFlags := 0x411 }
/-- [B -/
def k19 : Class := { plain "[B" (some 0) with kind := .array 18 .byte, interfaces := #[17, 2], accessFlags := 1041 }

/-- the primitive char -/
def k20 : Class := { plain "char" none with kind := .primitive 'C', accessFlags := 0x411 }
/-- [C -/
def k21 : Class := { plain "[C" (some 0) with kind := .array 20 .char, interfaces := #[17, 2], accessFlags := 1041 }

/-- the primitive int -/
def k22 : Class := { plain "int" none with kind := .primitive 'I', accessFlags := 0x411 }
/-- [I -/
def k23 : Class := { plain "[I" (some 0) with kind := .array 22 .int, interfaces := #[17, 2], accessFlags := 1041 }

def heap : Heap := #[{ cls := 7, slots := #[.long 0, .int 1, .null, .int 0, .null, .int 0, .int 0], vm := .statics 7 },
  { cls := 14, slots := #[.null, .null, .ref 4, .ref 5, .null], vm := .statics 14 },
  { cls := 15, slots := #[.ref 6], vm := .statics 15 },
  { cls := 16, slots := #[.null, .null, .null], vm := .statics 16 },
  { cls := 14, slots := #[], vm := .none },
  { cls := 23, slots := #[.int 1207963663, .int 1207963663, .int 1207963663, .int 1207963663, .int 1207963663, .int 1207963663, .int 1207963663, .int 1207963663, .int 1207963663, .int 1476411407, .int 1342193679, .int 1476411407, .int 1610629135, .int 1342193679, .int 1207963663, .int 1207963663, .int 1207963663, .int 1207963663, .int 1207963663, .int 1207963663, .int 1207963663, .int 1207963663, .int 1207963663, .int 1207963663, .int 1207963663, .int 1207963663, .int 1207963663, .int 1207963663, .int 1342193679, .int 1342193679, .int 1342193679, .int 1476411407, .int 1610629132, .int 1744830488, .int 1744830488, .int 671088664, .int 671113242, .int 671088664, .int 1744830488, .int 1744830488, .int (-402653163), .int (-402653162), .int 1744830488, .int 536870937, .int 939524120, .int 536870932, .int 939524120, .int 939524120, .int 402667017, .int 402667017, .int 402667017, .int 402667017, .int 402667017, .int 402667017, .int 402667017, .int 402667017, .int 402667017, .int 402667017, .int 939524120, .int 1744830488, .int (-402653159), .int 1744830489, .int (-402653159), .int 1744830488, .int 1744830488, .int 8552417, .int 8552417, .int 8552417, .int 8552417, .int 8552417, .int 8552417, .int 8552417, .int 8552417, .int 8552417, .int 8552417, .int 8552417, .int 8552417, .int 8552417, .int 8552417, .int 8552417, .int 8552417, .int 8552417, .int 8552417, .int 8552417, .int 8552417, .int 8552417, .int 8552417, .int 8552417, .int 8552417, .int 8552417, .int 8552417, .int (-402653163), .int 1744830488, .int (-402653162), .int 1744830491, .int 1744850967, .int 1744830491, .int 8486882, .int 8486882, .int 8486882, .int 8486882, .int 8486882, .int 8486882, .int 8486882, .int 8486882, .int 8486882, .int 8486882, .int 8486882, .int 8486882, .int 8486882, .int 8486882, .int 8486882, .int 8486882, .int 8486882, .int 8486882, .int 8486882, .int 8486882, .int 8486882, .int 8486882, .int 8486882, .int 8486882, .int 8486882, .int 8486882, .int (-402653163), .int 1744830489, .int (-402653162), .int 1744830489, .int 1207963663, .int 1207963663, .int 1207963663, .int 1207963663, .int 1207963663, .int 1207963663, .int 1342181391, .int 1207963663, .int 1207963663, .int 1207963663, .int 1207963663, .int 1207963663, .int 1207963663, .int 1207963663, .int 1207963663, .int 1207963663, .int 1207963663, .int 1207963663, .int 1207963663, .int 1207963663, .int 1207963663, .int 1207963663, .int 1207963663, .int 1207963663, .int 1207963663, .int 1207963663, .int 1207963663, .int 1207963663, .int 1207963663, .int 1207963663, .int 1207963663, .int 1207963663, .int 1207963663, .int 939524108, .int 1744830488, .int 671113242, .int 671113242, .int 671113242, .int 671113242, .int 1744830492, .int 1744830488, .int 1744830491, .int 1744830492, .int 28677, .int (-402653155), .int 1744830489, .int 1207963664, .int 1744830492, .int 1744830491, .int 671088668, .int 671088665, .int 402654731, .int 402654731, .int 1744830491, .int 134049794, .int 1744830488, .int 1744830488, .int 1744830491, .int 402654475, .int 28677, .int (-402653154), .int 1744832523, .int 1744832523, .int 1744832523, .int 1744830488, .int 8548353, .int 8548353, .int 8548353, .int 8548353, .int 8548353, .int 8548353, .int 8548353, .int 8548353, .int 8548353, .int 8548353, .int 8548353, .int 8548353, .int 8548353, .int 8548353, .int 8548353, .int 8548353, .int 8548353, .int 8548353, .int 8548353, .int 8548353, .int 8548353, .int 8548353, .int 8548353, .int 1744830489, .int 8548353, .int 8548353, .int 8548353, .int 8548353, .int 8548353, .int 8548353, .int 8548353, .int 134049794, .int 8482818, .int 8482818, .int 8482818, .int 8482818, .int 8482818, .int 8482818, .int 8482818, .int 8482818, .int 8482818, .int 8482818, .int 8482818, .int 8482818, .int 8482818, .int 8482818, .int 8482818, .int 8482818, .int 8482818, .int 8482818, .int 8482818, .int 8482818, .int 8482818, .int 8482818, .int 8482818, .int 1744830489, .int 8482818, .int 8482818, .int 8482818, .int 8482818, .int 8482818, .int 8482818, .int 8482818, .int 102592514], vm := .none },
  { cls := 15, slots := #[.int 0, .long 0], vm := .none }]
def k24 : Class := plain "jdk/internal/util/ArraysSupport" (some 0)
def classes : Array Class := #[k0, k1, k2, k3, k4, k5, k6, k7, k8, k9, k10, k11, k12, k13, k14, k15, k16, k17, k18, k19, k20, k21, k22, k23, k24]
def interned : List (Array UInt16 × Addr) := []
def slotsUsed : Nat := 274
def theMethod : MethodId := ⟨1, 2⟩
def args0 : Array Value := #[.int 1, .int 2, .int 3, .int 4]
def aboutOver (below : List Frame) : State where
  vm := { classes := classes, interned := interned.toArray }
  heap := heap
  slotsUsed := slotsUsed
  threads := #[{ frames := .invoking theMethod args0 :: below }]
def below0 : List Frame := [.native { method := ⟨0, 0⟩, args := #[] }]
def about1 : State := aboutOver below0
def p0 : Program := .bare "" "" ""
def e0 : Env := launch0.env 0 0 0
theorem w_frames : about1.frames = Frame.invoking theMethod args0 :: below0 := rfl
set_option maxRecDepth 65536 in
theorem w_args : argsFit about1.vm theMethod args0 = true := by decide +kernel
set_option maxRecDepth 65536 in
theorem w_heap : heapFits about1 = true := by decide +kernel
set_option maxRecDepth 65536 in
theorem w_runnable : about1.curStatus? = some .runnable := by decide +kernel
set_option maxRecDepth 65536 in
theorem w_alone : about1.alone = true := by decide +kernel
set_option maxRecDepth 65536 in
theorem w_named : about1.methodNamed? x = some theMethod := by decide +kernel
set_option maxRecDepth 65536 in
theorem w_hears : about1.hears theMethod below0 = true := by decide +kernel
set_option maxRecDepth 65536 in
theorem w_ripe : about1.ripe theMethod args0 below0 = true := by decide +kernel
theorem w_running : about1.status = .running := rfl
set_option maxRecDepth 65536 in
theorem w_room : about1.hasRoom e0.platform room_1 = true :=
  launch0.hasRoom_least _ room_1 (by decide +kernel) (by decide +kernel) (by decide +kernel) (by decide +kernel) (by decide +kernel) (by decide +kernel)
theorem allAtoms_all (ts : List Jvm.Cond) (a : Array Jvm.Value) (st : Jvm.State) : (allAtoms ts).before a st = ts.all (fun c => c.before a st) := by
  induction ts with
  | nil => rfl
  | cons c t ih =>
    show (Jvm.Cond.and c (allAtoms t)).before a st = _
    rw [Jvm.Cond.before_and, ih, List.all_cons]
def words1 : List Jvm.Cond := Jvm.Cond.code x code maxLocals ret :: tables_1
/-- a 'code' word, met by the world's own term for the bytes: nothing is compared byte by byte -/
theorem code_word {y : MethodName} {bytes : ByteArray} {mx : Nat} {rt : Option FieldType} {a : Array Value} {s : State} {m : MethodId} {meth : Method} {c : Code} (h1 : s.methodNamed? y = some m) (h2 : s.vm.method? m = some meth) (h3 : meth.code = some c) (h4 : c.code = bytes)
    (h5 : (c.maxLocals == mx && c.exceptionTable.isEmpty && decide (c.maxStack ≤ mostOperands) && decide (meth.sig.returnType = rt) && !meth.locks && decide (parseMethodDescriptor y.desc = some meth.sig)) = true) : (Jvm.Cond.code y bytes mx rt).before a s = true := by
  simp only [Bool.and_eq_true, beq_iff_eq, Bool.not_eq_true', decide_eq_true_eq] at h5
  obtain ⟨⟨⟨⟨⟨g1, g2⟩, g3⟩, g4⟩, g5⟩, g6⟩ := h5
  simp [Cond.before, Cond.holds, Cond.value, h1, h2, h3, h4, g1, g2, g3, g4, g5, g6]
def isCode : Jvm.Cond → Bool
  | .code _ _ _ _ => true
  | _ => false
theorem all_split {L : List Jvm.Cond} {P : Jvm.Cond → Bool} (h1 : L.all (fun c => isCode c || P c) = true) (h2 : ∀ c ∈ L.filter isCode, P c = true) : L.all P = true := by
  refine List.all_eq_true.mpr fun c hc => ?_
  have h := List.all_eq_true.mp h1 c hc
  rcases Bool.eq_false_or_eq_true (isCode c) with hi | hi
  · exact h2 c (List.mem_filter.mpr ⟨hc, hi⟩)
  · simpa [hi] using h
set_option maxRecDepth 65536 in
theorem w_c0 : (Jvm.Cond.code x code maxLocals ret).before args0 about1 = true := code_word (m := ⟨1, 2⟩) (meth := k1m2) (c := k1c2) (by decide +kernel) rfl rfl rfl (by decide +kernel)
set_option maxRecDepth 65536 in
theorem w_c1 : (Jvm.Cond.code ({ cls := "com/example/libhilo/libhilo/StoredSequenceUndefinedPinLaw", name := "isWs", desc := "(C)Z" } : Jvm.MethodName) method_2_code (1 : Nat) (Option.some Jvm.ClassFile.FieldType.boolean)).before args0 about1 = true := code_word (m := ⟨1, 1⟩) (meth := k1m1) (c := k1c1) (by decide +kernel) rfl rfl rfl (by decide +kernel)
set_option maxRecDepth 65536 in
theorem w_c2 : (Jvm.Cond.code ({ cls := "java/lang/String", name := "<init>", desc := "([C)V" } : Jvm.MethodName) jdk_42_method_3_code (2 : Nat) (Option.none : Option Jvm.ClassFile.FieldType)).before args0 about1 = true := code_word (m := ⟨7, 1⟩) (meth := k7m1) (c := k7c1) (by decide +kernel) rfl rfl rfl (by decide +kernel)
set_option maxRecDepth 65536 in
theorem w_c3 : (Jvm.Cond.code ({ cls := "java/lang/String", name := "<init>", desc := "([CIILjava/lang/Void;)V" } : Jvm.MethodName) jdk_42_method_149_code (6 : Nat) (Option.none : Option Jvm.ClassFile.FieldType)).before args0 about1 = true := code_word (m := ⟨7, 6⟩) (meth := k7m6) (c := k7c6) (by decide +kernel) rfl rfl rfl (by decide +kernel)
set_option maxRecDepth 65536 in
theorem w_c4 : (Jvm.Cond.code ({ cls := "java/lang/Object", name := "<init>", desc := "()V" } : Jvm.MethodName) object_method_1_code (1 : Nat) (Option.none : Option Jvm.ClassFile.FieldType)).before args0 about1 = true := code_word (m := ⟨0, 0⟩) (meth := k0m0) (c := k0c0) (by decide +kernel) rfl rfl rfl (by decide +kernel)
set_option maxRecDepth 65536 in
theorem w_c5 : (Jvm.Cond.code ({ cls := "java/lang/StringUTF16", name := "compress", desc := "([CII)[B" } : Jvm.MethodName) jdk_52_method_16_code (6 : Nat) (Option.some (Jvm.ClassFile.FieldType.array Jvm.ClassFile.FieldType.byte))).before args0 about1 = true := code_word (m := ⟨8, 2⟩) (meth := k8m2) (c := k8c2) (by decide +kernel) rfl rfl rfl (by decide +kernel)
set_option maxRecDepth 65536 in
theorem w_c6 : (Jvm.Cond.code ({ cls := "java/lang/StringUTF16", name := "compress", desc := "([CI[BII)I" } : Jvm.MethodName) jdk_52_method_21_code (7 : Nat) (Option.some Jvm.ClassFile.FieldType.int)).before args0 about1 = true := code_word (m := ⟨8, 3⟩) (meth := k8m3) (c := k8c3) (by decide +kernel) rfl rfl rfl (by decide +kernel)
set_option maxRecDepth 65536 in
theorem w_c7 : (Jvm.Cond.code ({ cls := "java/lang/StringUTF16", name := "coderFromArrayLen", desc := "([BI)B" } : Jvm.MethodName) jdk_52_method_15_code (2 : Nat) (Option.some Jvm.ClassFile.FieldType.byte)).before args0 about1 = true := code_word (m := ⟨8, 1⟩) (meth := k8m1) (c := k8c1) (by decide +kernel) rfl rfl rfl (by decide +kernel)
set_option maxRecDepth 65536 in
theorem w_c8 : (Jvm.Cond.code ({ cls := "com/example/libhilo/libhilo/StoredSequence", name := "undefined", desc := "(Ljava/lang/String;)Lcom/example/libhilo/libhilo/StoredSequence;" } : Jvm.MethodName) prog_12_method_2_code (1 : Nat) (Option.some (Jvm.ClassFile.FieldType.object "com/example/libhilo/libhilo/StoredSequence"))).before args0 about1 = true := code_word (m := ⟨9, 1⟩) (meth := k9m1) (c := k9c1) (by decide +kernel) rfl rfl rfl (by decide +kernel)
set_option maxRecDepth 65536 in
theorem w_c9 : (Jvm.Cond.code ({ cls := "com/example/libhilo/libhilo/SequenceSpec", name := "named", desc := "(Ljava/lang/String;)Lcom/example/libhilo/libhilo/SequenceSpec;" } : Jvm.MethodName) prog_8_method_2_code (1 : Nat) (Option.some (Jvm.ClassFile.FieldType.object "com/example/libhilo/libhilo/SequenceSpec"))).before args0 about1 = true := code_word (m := ⟨10, 1⟩) (meth := k10m1) (c := k10c1) (by decide +kernel) rfl rfl rfl (by decide +kernel)
set_option maxRecDepth 65536 in
theorem w_c10 : (Jvm.Cond.code ({ cls := "com/example/libhilo/libhilo/SequenceSpec", name := "requireValidName", desc := "(Ljava/lang/String;)V" } : Jvm.MethodName) prog_8_method_3_code (1 : Nat) (Option.none : Option Jvm.ClassFile.FieldType)).before args0 about1 = true := code_word (m := ⟨10, 2⟩) (meth := k10m2) (c := k10c2) (by decide +kernel) rfl rfl rfl (by decide +kernel)
set_option maxRecDepth 65536 in
theorem w_c11 : (Jvm.Cond.code ({ cls := "java/util/Objects", name := "requireNonNull", desc := "(Ljava/lang/Object;Ljava/lang/String;)Ljava/lang/Object;" } : Jvm.MethodName) jdk_31_method_11_code (2 : Nat) (Option.some (Jvm.ClassFile.FieldType.object "java/lang/Object"))).before args0 about1 = true := code_word (m := ⟨11, 1⟩) (meth := k11m1) (c := k11c1) (by decide +kernel) rfl rfl rfl (by decide +kernel)
set_option maxRecDepth 65536 in
theorem w_c12 : (Jvm.Cond.code ({ cls := "java/lang/String", name := "isBlank", desc := "()Z" } : Jvm.MethodName) jdk_42_method_117_code (1 : Nat) (Option.some Jvm.ClassFile.FieldType.boolean)).before args0 about1 = true := code_word (m := ⟨7, 4⟩) (meth := k7m4) (c := k7c4) (by decide +kernel) rfl rfl rfl (by decide +kernel)
set_option maxRecDepth 65536 in
theorem w_c13 : (Jvm.Cond.code ({ cls := "java/lang/String", name := "indexOfNonWhitespace", desc := "()I" } : Jvm.MethodName) jdk_42_method_120_code (1 : Nat) (Option.some Jvm.ClassFile.FieldType.int)).before args0 about1 = true := code_word (m := ⟨7, 5⟩) (meth := k7m5) (c := k7c5) (by decide +kernel) rfl rfl rfl (by decide +kernel)
set_option maxRecDepth 65536 in
theorem w_c14 : (Jvm.Cond.code ({ cls := "java/lang/String", name := "isLatin1", desc := "()Z" } : Jvm.MethodName) jdk_42_method_154_code (1 : Nat) (Option.some Jvm.ClassFile.FieldType.boolean)).before args0 about1 = true := code_word (m := ⟨7, 8⟩) (meth := k7m8) (c := k7c8) (by decide +kernel) rfl rfl rfl (by decide +kernel)
set_option maxRecDepth 65536 in
theorem w_c15 : (Jvm.Cond.code ({ cls := "java/lang/StringLatin1", name := "indexOfNonWhitespace", desc := "([B)I" } : Jvm.MethodName) jdk_43_method_37_code (4 : Nat) (Option.some Jvm.ClassFile.FieldType.int)).before args0 about1 = true := code_word (m := ⟨12, 1⟩) (meth := k12m1) (c := k12c1) (by decide +kernel) rfl rfl rfl (by decide +kernel)
set_option maxRecDepth 65536 in
theorem w_c16 : (Jvm.Cond.code ({ cls := "java/lang/StringLatin1", name := "getChar", desc := "([BI)C" } : Jvm.MethodName) jdk_43_method_44_code (2 : Nat) (Option.some Jvm.ClassFile.FieldType.char)).before args0 about1 = true := code_word (m := ⟨12, 2⟩) (meth := k12m2) (c := k12c2) (by decide +kernel) rfl rfl rfl (by decide +kernel)
set_option maxRecDepth 65536 in
theorem w_c17 : (Jvm.Cond.code ({ cls := "java/lang/CharacterDataLatin1", name := "isWhitespace", desc := "(I)Z" } : Jvm.MethodName) jdk_116_method_26_code (3 : Nat) (Option.some Jvm.ClassFile.FieldType.boolean)).before args0 about1 = true := code_word (m := ⟨14, 1⟩) (meth := k14m1) (c := k14c1) (by decide +kernel) rfl rfl rfl (by decide +kernel)
set_option maxRecDepth 65536 in
theorem w_c18 : (Jvm.Cond.code ({ cls := "java/lang/CharacterDataLatin1", name := "getProperties", desc := "(I)I" } : Jvm.MethodName) jdk_116_method_1_code (4 : Nat) (Option.some Jvm.ClassFile.FieldType.int)).before args0 about1 = true := code_word (m := ⟨14, 0⟩) (meth := k14m0) (c := k14c0) (by decide +kernel) rfl rfl rfl (by decide +kernel)
set_option maxRecDepth 65536 in
theorem w_c19 : (Jvm.Cond.code ({ cls := "java/lang/String", name := "length", desc := "()I" } : Jvm.MethodName) jdk_42_method_54_code (1 : Nat) (Option.some Jvm.ClassFile.FieldType.int)).before args0 about1 = true := code_word (m := ⟨7, 2⟩) (meth := k7m2) (c := k7c2) (by decide +kernel) rfl rfl rfl (by decide +kernel)
set_option maxRecDepth 65536 in
theorem w_c20 : (Jvm.Cond.code ({ cls := "java/lang/String", name := "coder", desc := "()B" } : Jvm.MethodName) jdk_42_method_152_code (1 : Nat) (Option.some Jvm.ClassFile.FieldType.byte)).before args0 about1 = true := code_word (m := ⟨7, 7⟩) (meth := k7m7) (c := k7c7) (by decide +kernel) rfl rfl rfl (by decide +kernel)
set_option maxRecDepth 65536 in
theorem w_c21 : (Jvm.Cond.code ({ cls := "com/example/libhilo/libhilo/SequenceSpec", name := "<init>", desc := "(Ljava/lang/String;JLjava/lang/Long;Ljava/lang/Long;Ljava/lang/Long;)V" } : Jvm.MethodName) prog_8_method_1_code (7 : Nat) (Option.none : Option Jvm.ClassFile.FieldType)).before args0 about1 = true := code_word (m := ⟨10, 0⟩) (meth := k10m0) (c := k10c0) (by decide +kernel) rfl rfl rfl (by decide +kernel)
set_option maxRecDepth 65536 in
theorem w_c22 : (Jvm.Cond.code ({ cls := "java/util/OptionalLong", name := "empty", desc := "()Ljava/util/OptionalLong;" } : Jvm.MethodName) jdk_2650_method_2_code (0 : Nat) (Option.some (Jvm.ClassFile.FieldType.object "java/util/OptionalLong"))).before args0 about1 = true := code_word (m := ⟨15, 1⟩) (meth := k15m1) (c := k15c1) (by decide +kernel) rfl rfl rfl (by decide +kernel)
set_option maxRecDepth 65536 in
theorem w_c23 : (Jvm.Cond.code ({ cls := "com/example/libhilo/libhilo/StoredSequence", name := "<init>", desc := "(Lcom/example/libhilo/libhilo/SequenceSpec;Ljava/util/OptionalLong;)V" } : Jvm.MethodName) prog_12_method_1_code (3 : Nat) (Option.none : Option Jvm.ClassFile.FieldType)).before args0 about1 = true := code_word (m := ⟨9, 0⟩) (meth := k9m0) (c := k9c0) (by decide +kernel) rfl rfl rfl (by decide +kernel)
set_option maxRecDepth 65536 in
theorem w_c24 : (Jvm.Cond.code ({ cls := "com/example/libhilo/libhilo/StoredSequence", name := "definition", desc := "()Lcom/example/libhilo/libhilo/SequenceSpec;" } : Jvm.MethodName) prog_12_method_3_code (1 : Nat) (Option.some (Jvm.ClassFile.FieldType.object "com/example/libhilo/libhilo/SequenceSpec"))).before args0 about1 = true := code_word (m := ⟨9, 2⟩) (meth := k9m2) (c := k9c2) (by decide +kernel) rfl rfl rfl (by decide +kernel)
set_option maxRecDepth 65536 in
theorem w_c25 : (Jvm.Cond.code ({ cls := "com/example/libhilo/libhilo/SequenceSpec", name := "name", desc := "()Ljava/lang/String;" } : Jvm.MethodName) prog_8_method_8_code (1 : Nat) (Option.some (Jvm.ClassFile.FieldType.object "java/lang/String"))).before args0 about1 = true := code_word (m := ⟨10, 3⟩) (meth := k10m3) (c := k10c3) (by decide +kernel) rfl rfl rfl (by decide +kernel)
set_option maxRecDepth 65536 in
theorem w_c26 : (Jvm.Cond.code ({ cls := "java/lang/String", name := "equals", desc := "(Ljava/lang/Object;)Z" } : Jvm.MethodName) jdk_42_method_66_code (3 : Nat) (Option.some Jvm.ClassFile.FieldType.boolean)).before args0 about1 = true := code_word (m := ⟨7, 3⟩) (meth := k7m3) (c := k7c3) (by decide +kernel) rfl rfl rfl (by decide +kernel)
set_option maxRecDepth 65536 in
theorem w_c27 : (Jvm.Cond.code ({ cls := "com/example/libhilo/libhilo/SequenceSpec", name := "increment", desc := "()J" } : Jvm.MethodName) prog_8_method_9_code (1 : Nat) (Option.some Jvm.ClassFile.FieldType.long)).before args0 about1 = true := code_word (m := ⟨10, 4⟩) (meth := k10m4) (c := k10c4) (by decide +kernel) rfl rfl rfl (by decide +kernel)
set_option maxRecDepth 65536 in
theorem w_c28 : (Jvm.Cond.code ({ cls := "com/example/libhilo/libhilo/SequenceSpec", name := "start", desc := "()J" } : Jvm.MethodName) prog_8_method_10_code (1 : Nat) (Option.some Jvm.ClassFile.FieldType.long)).before args0 about1 = true := code_word (m := ⟨10, 5⟩) (meth := k10m5) (c := k10c5) (by decide +kernel) rfl rfl rfl (by decide +kernel)
set_option maxRecDepth 65536 in
theorem w_c29 : (Jvm.Cond.code ({ cls := "com/example/libhilo/libhilo/SequenceSpec", name := "minimum", desc := "()J" } : Jvm.MethodName) prog_8_method_11_code (1 : Nat) (Option.some Jvm.ClassFile.FieldType.long)).before args0 about1 = true := code_word (m := ⟨10, 6⟩) (meth := k10m6) (c := k10c6) (by decide +kernel) rfl rfl rfl (by decide +kernel)
set_option maxRecDepth 65536 in
theorem w_c30 : (Jvm.Cond.code ({ cls := "com/example/libhilo/libhilo/SequenceSpec", name := "setOrDefault", desc := "(Ljava/lang/Long;JJ)J" } : Jvm.MethodName) prog_8_method_17_code (8 : Nat) (Option.some Jvm.ClassFile.FieldType.long)).before args0 about1 = true := code_word (m := ⟨10, 9⟩) (meth := k10m9) (c := k10c9) (by decide +kernel) rfl rfl rfl (by decide +kernel)
set_option maxRecDepth 65536 in
theorem w_c31 : (Jvm.Cond.code ({ cls := "com/example/libhilo/libhilo/SequenceSpec", name := "maximum", desc := "()J" } : Jvm.MethodName) prog_8_method_12_code (1 : Nat) (Option.some Jvm.ClassFile.FieldType.long)).before args0 about1 = true := code_word (m := ⟨10, 7⟩) (meth := k10m7) (c := k10c7) (by decide +kernel) rfl rfl rfl (by decide +kernel)
set_option maxRecDepth 65536 in
theorem w_c32 : (Jvm.Cond.code ({ cls := "com/example/libhilo/libhilo/SequenceSpec", name := "limit", desc := "()J" } : Jvm.MethodName) prog_8_method_13_code (3 : Nat) (Option.some Jvm.ClassFile.FieldType.long)).before args0 about1 = true := code_word (m := ⟨10, 8⟩) (meth := k10m8) (c := k10c8) (by decide +kernel) rfl rfl rfl (by decide +kernel)
set_option maxRecDepth 65536 in
theorem w_c33 : (Jvm.Cond.code ({ cls := "com/example/libhilo/libhilo/StoredSequence", name := "lastReserved", desc := "()Ljava/util/OptionalLong;" } : Jvm.MethodName) prog_12_method_4_code (1 : Nat) (Option.some (Jvm.ClassFile.FieldType.object "java/util/OptionalLong"))).before args0 about1 = true := code_word (m := ⟨9, 3⟩) (meth := k9m3) (c := k9c3) (by decide +kernel) rfl rfl rfl (by decide +kernel)
set_option maxRecDepth 65536 in
theorem w_c34 : (Jvm.Cond.code ({ cls := "java/util/OptionalLong", name := "isPresent", desc := "()Z" } : Jvm.MethodName) jdk_2650_method_6_code (1 : Nat) (Option.some Jvm.ClassFile.FieldType.boolean)).before args0 about1 = true := code_word (m := ⟨15, 2⟩) (meth := k15m2) (c := k15c2) (by decide +kernel) rfl rfl rfl (by decide +kernel)
def codes1 : List Jvm.Cond := [Jvm.Cond.code x code maxLocals ret, Jvm.Cond.code ({ cls := "com/example/libhilo/libhilo/StoredSequenceUndefinedPinLaw", name := "isWs", desc := "(C)Z" } : Jvm.MethodName) method_2_code (1 : Nat) (Option.some Jvm.ClassFile.FieldType.boolean), Jvm.Cond.code ({ cls := "java/lang/String", name := "<init>", desc := "([C)V" } : Jvm.MethodName) jdk_42_method_3_code (2 : Nat) (Option.none : Option Jvm.ClassFile.FieldType), Jvm.Cond.code ({ cls := "java/lang/String", name := "<init>", desc := "([CIILjava/lang/Void;)V" } : Jvm.MethodName) jdk_42_method_149_code (6 : Nat) (Option.none : Option Jvm.ClassFile.FieldType), Jvm.Cond.code ({ cls := "java/lang/Object", name := "<init>", desc := "()V" } : Jvm.MethodName) object_method_1_code (1 : Nat) (Option.none : Option Jvm.ClassFile.FieldType), Jvm.Cond.code ({ cls := "java/lang/StringUTF16", name := "compress", desc := "([CII)[B" } : Jvm.MethodName) jdk_52_method_16_code (6 : Nat) (Option.some (Jvm.ClassFile.FieldType.array Jvm.ClassFile.FieldType.byte)), Jvm.Cond.code ({ cls := "java/lang/StringUTF16", name := "compress", desc := "([CI[BII)I" } : Jvm.MethodName) jdk_52_method_21_code (7 : Nat) (Option.some Jvm.ClassFile.FieldType.int), Jvm.Cond.code ({ cls := "java/lang/StringUTF16", name := "coderFromArrayLen", desc := "([BI)B" } : Jvm.MethodName) jdk_52_method_15_code (2 : Nat) (Option.some Jvm.ClassFile.FieldType.byte), Jvm.Cond.code ({ cls := "com/example/libhilo/libhilo/StoredSequence", name := "undefined", desc := "(Ljava/lang/String;)Lcom/example/libhilo/libhilo/StoredSequence;" } : Jvm.MethodName) prog_12_method_2_code (1 : Nat) (Option.some (Jvm.ClassFile.FieldType.object "com/example/libhilo/libhilo/StoredSequence")), Jvm.Cond.code ({ cls := "com/example/libhilo/libhilo/SequenceSpec", name := "named", desc := "(Ljava/lang/String;)Lcom/example/libhilo/libhilo/SequenceSpec;" } : Jvm.MethodName) prog_8_method_2_code (1 : Nat) (Option.some (Jvm.ClassFile.FieldType.object "com/example/libhilo/libhilo/SequenceSpec")), Jvm.Cond.code ({ cls := "com/example/libhilo/libhilo/SequenceSpec", name := "requireValidName", desc := "(Ljava/lang/String;)V" } : Jvm.MethodName) prog_8_method_3_code (1 : Nat) (Option.none : Option Jvm.ClassFile.FieldType), Jvm.Cond.code ({ cls := "java/util/Objects", name := "requireNonNull", desc := "(Ljava/lang/Object;Ljava/lang/String;)Ljava/lang/Object;" } : Jvm.MethodName) jdk_31_method_11_code (2 : Nat) (Option.some (Jvm.ClassFile.FieldType.object "java/lang/Object")), Jvm.Cond.code ({ cls := "java/lang/String", name := "isBlank", desc := "()Z" } : Jvm.MethodName) jdk_42_method_117_code (1 : Nat) (Option.some Jvm.ClassFile.FieldType.boolean), Jvm.Cond.code ({ cls := "java/lang/String", name := "indexOfNonWhitespace", desc := "()I" } : Jvm.MethodName) jdk_42_method_120_code (1 : Nat) (Option.some Jvm.ClassFile.FieldType.int), Jvm.Cond.code ({ cls := "java/lang/String", name := "isLatin1", desc := "()Z" } : Jvm.MethodName) jdk_42_method_154_code (1 : Nat) (Option.some Jvm.ClassFile.FieldType.boolean), Jvm.Cond.code ({ cls := "java/lang/StringLatin1", name := "indexOfNonWhitespace", desc := "([B)I" } : Jvm.MethodName) jdk_43_method_37_code (4 : Nat) (Option.some Jvm.ClassFile.FieldType.int), Jvm.Cond.code ({ cls := "java/lang/StringLatin1", name := "getChar", desc := "([BI)C" } : Jvm.MethodName) jdk_43_method_44_code (2 : Nat) (Option.some Jvm.ClassFile.FieldType.char), Jvm.Cond.code ({ cls := "java/lang/CharacterDataLatin1", name := "isWhitespace", desc := "(I)Z" } : Jvm.MethodName) jdk_116_method_26_code (3 : Nat) (Option.some Jvm.ClassFile.FieldType.boolean), Jvm.Cond.code ({ cls := "java/lang/CharacterDataLatin1", name := "getProperties", desc := "(I)I" } : Jvm.MethodName) jdk_116_method_1_code (4 : Nat) (Option.some Jvm.ClassFile.FieldType.int), Jvm.Cond.code ({ cls := "java/lang/String", name := "length", desc := "()I" } : Jvm.MethodName) jdk_42_method_54_code (1 : Nat) (Option.some Jvm.ClassFile.FieldType.int), Jvm.Cond.code ({ cls := "java/lang/String", name := "coder", desc := "()B" } : Jvm.MethodName) jdk_42_method_152_code (1 : Nat) (Option.some Jvm.ClassFile.FieldType.byte), Jvm.Cond.code ({ cls := "com/example/libhilo/libhilo/SequenceSpec", name := "<init>", desc := "(Ljava/lang/String;JLjava/lang/Long;Ljava/lang/Long;Ljava/lang/Long;)V" } : Jvm.MethodName) prog_8_method_1_code (7 : Nat) (Option.none : Option Jvm.ClassFile.FieldType), Jvm.Cond.code ({ cls := "java/util/OptionalLong", name := "empty", desc := "()Ljava/util/OptionalLong;" } : Jvm.MethodName) jdk_2650_method_2_code (0 : Nat) (Option.some (Jvm.ClassFile.FieldType.object "java/util/OptionalLong")), Jvm.Cond.code ({ cls := "com/example/libhilo/libhilo/StoredSequence", name := "<init>", desc := "(Lcom/example/libhilo/libhilo/SequenceSpec;Ljava/util/OptionalLong;)V" } : Jvm.MethodName) prog_12_method_1_code (3 : Nat) (Option.none : Option Jvm.ClassFile.FieldType), Jvm.Cond.code ({ cls := "com/example/libhilo/libhilo/StoredSequence", name := "definition", desc := "()Lcom/example/libhilo/libhilo/SequenceSpec;" } : Jvm.MethodName) prog_12_method_3_code (1 : Nat) (Option.some (Jvm.ClassFile.FieldType.object "com/example/libhilo/libhilo/SequenceSpec")), Jvm.Cond.code ({ cls := "com/example/libhilo/libhilo/SequenceSpec", name := "name", desc := "()Ljava/lang/String;" } : Jvm.MethodName) prog_8_method_8_code (1 : Nat) (Option.some (Jvm.ClassFile.FieldType.object "java/lang/String")), Jvm.Cond.code ({ cls := "java/lang/String", name := "equals", desc := "(Ljava/lang/Object;)Z" } : Jvm.MethodName) jdk_42_method_66_code (3 : Nat) (Option.some Jvm.ClassFile.FieldType.boolean), Jvm.Cond.code ({ cls := "com/example/libhilo/libhilo/SequenceSpec", name := "increment", desc := "()J" } : Jvm.MethodName) prog_8_method_9_code (1 : Nat) (Option.some Jvm.ClassFile.FieldType.long), Jvm.Cond.code ({ cls := "com/example/libhilo/libhilo/SequenceSpec", name := "start", desc := "()J" } : Jvm.MethodName) prog_8_method_10_code (1 : Nat) (Option.some Jvm.ClassFile.FieldType.long), Jvm.Cond.code ({ cls := "com/example/libhilo/libhilo/SequenceSpec", name := "minimum", desc := "()J" } : Jvm.MethodName) prog_8_method_11_code (1 : Nat) (Option.some Jvm.ClassFile.FieldType.long), Jvm.Cond.code ({ cls := "com/example/libhilo/libhilo/SequenceSpec", name := "setOrDefault", desc := "(Ljava/lang/Long;JJ)J" } : Jvm.MethodName) prog_8_method_17_code (8 : Nat) (Option.some Jvm.ClassFile.FieldType.long), Jvm.Cond.code ({ cls := "com/example/libhilo/libhilo/SequenceSpec", name := "maximum", desc := "()J" } : Jvm.MethodName) prog_8_method_12_code (1 : Nat) (Option.some Jvm.ClassFile.FieldType.long), Jvm.Cond.code ({ cls := "com/example/libhilo/libhilo/SequenceSpec", name := "limit", desc := "()J" } : Jvm.MethodName) prog_8_method_13_code (3 : Nat) (Option.some Jvm.ClassFile.FieldType.long), Jvm.Cond.code ({ cls := "com/example/libhilo/libhilo/StoredSequence", name := "lastReserved", desc := "()Ljava/util/OptionalLong;" } : Jvm.MethodName) prog_12_method_4_code (1 : Nat) (Option.some (Jvm.ClassFile.FieldType.object "java/util/OptionalLong")), Jvm.Cond.code ({ cls := "java/util/OptionalLong", name := "isPresent", desc := "()Z" } : Jvm.MethodName) jdk_2650_method_6_code (1 : Nat) (Option.some Jvm.ClassFile.FieldType.boolean)]
set_option maxRecDepth 65536 in
theorem codes_eq : words1.filter isCode = codes1 := rfl
theorem w_codes : ∀ c ∈ words1.filter isCode, c.before args0 about1 = true := by
  rw [codes_eq]
  intro c hc
  simp only [codes1, List.mem_cons, List.not_mem_nil, or_false] at hc
  rcases hc with rfl | rfl | rfl | rfl | rfl | rfl | rfl | rfl | rfl | rfl | rfl | rfl | rfl | rfl | rfl | rfl | rfl | rfl | rfl | rfl | rfl | rfl | rfl | rfl | rfl | rfl | rfl | rfl | rfl | rfl | rfl | rfl | rfl | rfl | rfl
  · exact w_c0
  · exact w_c1
  · exact w_c2
  · exact w_c3
  · exact w_c4
  · exact w_c5
  · exact w_c6
  · exact w_c7
  · exact w_c8
  · exact w_c9
  · exact w_c10
  · exact w_c11
  · exact w_c12
  · exact w_c13
  · exact w_c14
  · exact w_c15
  · exact w_c16
  · exact w_c17
  · exact w_c18
  · exact w_c19
  · exact w_c20
  · exact w_c21
  · exact w_c22
  · exact w_c23
  · exact w_c24
  · exact w_c25
  · exact w_c26
  · exact w_c27
  · exact w_c28
  · exact w_c29
  · exact w_c30
  · exact w_c31
  · exact w_c32
  · exact w_c33
  · exact w_c34
set_option maxRecDepth 65536 in
theorem w_t1 : (words1.take 24).all (fun c => isCode c || c.before args0 about1) = true := by decide +kernel
set_option maxRecDepth 65536 in
theorem w_t2 : ((words1.drop 24).take 24).all (fun c => isCode c || c.before args0 about1) = true := by decide +kernel
set_option maxRecDepth 65536 in
theorem w_t3 : (((words1.drop 24).drop 24).take 24).all (fun c => isCode c || c.before args0 about1) = true := by decide +kernel
set_option maxRecDepth 65536 in
theorem w_t4 : ((((words1.drop 24).drop 24).drop 24).take 24).all (fun c => isCode c || c.before args0 about1) = true := by decide +kernel
set_option maxRecDepth 65536 in
theorem w_t5 : (((((words1.drop 24).drop 24).drop 24).drop 24).take 24).all (fun c => isCode c || c.before args0 about1) = true := by decide +kernel
set_option maxRecDepth 65536 in
theorem w_t6 : ((((((words1.drop 24).drop 24).drop 24).drop 24).drop 24).take 24).all (fun c => isCode c || c.before args0 about1) = true := by decide +kernel
set_option maxRecDepth 65536 in
theorem w_t7 : (((((((words1.drop 24).drop 24).drop 24).drop 24).drop 24).drop 24).take 24).all (fun c => isCode c || c.before args0 about1) = true := by decide +kernel
set_option maxRecDepth 65536 in
theorem w_t8 : ((((((((words1.drop 24).drop 24).drop 24).drop 24).drop 24).drop 24).drop 24).take 24).all (fun c => isCode c || c.before args0 about1) = true := by decide +kernel
set_option maxRecDepth 65536 in
theorem w_t9 : ((((((((words1.drop 24).drop 24).drop 24).drop 24).drop 24).drop 24).drop 24).drop 24).all (fun c => isCode c || c.before args0 about1) = true := by decide +kernel
theorem w_tables : (allAtoms (Jvm.Cond.code x code maxLocals ret :: tables_1)).before args0 about1 = true := by
  rw [allAtoms_all]
  show words1.all (fun c => c.before args0 about1) = true
  refine all_split ?_ w_codes
  rw [← List.take_append_drop 24 words1, List.all_append, w_t1, ← List.take_append_drop 24 (words1.drop 24), List.all_append, w_t2, ← List.take_append_drop 24 ((words1.drop 24).drop 24), List.all_append, w_t3, ← List.take_append_drop 24 (((words1.drop 24).drop 24).drop 24), List.all_append, w_t4, ← List.take_append_drop 24 ((((words1.drop 24).drop 24).drop 24).drop 24), List.all_append, w_t5, ← List.take_append_drop 24 (((((words1.drop 24).drop 24).drop 24).drop 24).drop 24), List.all_append, w_t6, ← List.take_append_drop 24 ((((((words1.drop 24).drop 24).drop 24).drop 24).drop 24).drop 24), List.all_append, w_t7, ← List.take_append_drop 24 (((((((words1.drop 24).drop 24).drop 24).drop 24).drop 24).drop 24).drop 24), List.all_append, w_t8, w_t9]
  rfl
set_option maxRecDepth 65536 in
theorem w_rest : rest_1_c.before args0 about1 = true := by decide +kernel
set_option maxRecDepth 65536 in
theorem w_case : (Jvm.Cond.and given_1 narrow_1).before args0 about1 = true := by decide +kernel
theorem w_applies : (headSpec (Jvm.Cond.code x code maxLocals ret :: tables_1) room_1).applies x e0.platform about1 = true :=
  (Spec.applies_iff w_frames).mpr ⟨w_running, w_runnable, w_alone, w_named, w_hears, w_ripe, w_room, w_tables⟩
theorem atStart : AtStart classFile x code maxLocals ret World_1 tables_1 room_1 Calls_1 rest_1 Pre_1 launch0 p0 e0 about1 theMethod args0 below0 :=
  ⟨lists_1, trivial, launch0.admits_env _ _ _, launch0.least_env, fairChoices_fair.cas, fairChoices_fair.clock, w_frames, w_args, w_heap, w_applies, trivial, w_rest, w_case⟩
end start1
theorem witness_1 : WitnessClaimed_1 := ⟨start1.p0, start1.e0, start1.about1, start1.theMethod, start1.args0, start1.below0, start1.atStart⟩
end Jvm.Pilot.@@N@@
